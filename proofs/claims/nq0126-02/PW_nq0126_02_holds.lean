import PyProof.Rows.All
import Wide.All
import OpenK.AllK
import Wide.FinOn
import Lean
import PySem.Challenge.RW_nq0126_02
open PySem PySem.W PyProof.Rows
set_option Elab.async false
set_option maxRecDepth 100000
set_option maxHeartbeats 0
section
local macro_rules | `(tactic| o_head $_) => `(tactic| refine (show True → _ from fun _ => ?_) ?$(Lean.mkIdent `hw):ident)
local macro_rules | `(tactic| w_witness2) => `(tactic| trivial)
open_top hd2 for PySem.Challenge.rw_nq0126_02
end
section
local macro_rules | `(tactic| k_head) => `(tactic| z_head)
open_top hdz2 for PySem.Challenge.rw_nq0126_02
end
section SecbBs
theorem Mine.offbBs : True := by
  w_top off
  k_with_none
  trivial
open PySem PySem.W PyProof.Rows PySem.Spec PySem.Calls
set_option maxRecDepth 100000
namespace Mine
def Stop (P : Prop) : Prop := P
theorem stop {P : Prop} (h : Stop P) : P := h
theorem flat_rep (v : Value) : ∀ k : Nat, (List.foldl (fun x1 x2 => x1 ++ x2) (#[] : Array Value) (List.replicate k #[v])) = (List.replicate k v).toArray := by
  have key : ∀ k (acc : Array Value), List.foldl (fun x1 x2 => x1 ++ x2) acc (List.replicate k #[v]) = acc ++ (List.replicate k v).toArray := by
    intro k
    induction k with
    | zero => intro acc; simp
    | succ k ih => intro acc; rw [List.replicate_succ, List.foldl_cons, ih, List.replicate_succ]; apply Array.toList_inj.mp; simp [-List.toArray_replicate]
  intro k; rw [key]; simp
theorem ints_rep (t : Tok) : ∀ k : Nat, IntsAre (List.replicate k (.int 0 t)) (List.replicate k 0)
  | 0 => .nil
  | k + 1 => by rw [List.replicate_succ, List.replicate_succ]; exact .cons 0 t (ints_rep t k)
theorem mulZero {prog : Program} {w : World} {A : Around} {E : Value → Shared → Prop} {s : Shared} {h₀ : Heap} {L l : Addr} {m : Str → Option Value} {news : List (Addr × Obj)} {t : Tok} {n : Nat} {x : Int} {u : Tok} {Q : Value → Shared → Prop}
    (F : Fr h₀ L s.heap m) (N : News h₀ L s.heap news) (hm : (l, listOf #[.int 0 t] n) ∈ news) (h0 : 0 ≤ x) (h1 : x ≤ 1000)
    (k : ∀ l' vs h', IntsAre vs (List.replicate x.toNat 0) → Fr h₀ L h' m → News h₀ L h' ((l', listOf vs.toArray 0) :: news) → (∀ p ∈ news, p.1 < l') → Q (.ref l') { s with heap := h' }) :
    wpAny (model prog w) A (binaryOp .Mult (.ref l) (.int x u)) Q E s :=
  mul_list F N (N _ hm).1 (by omega) (by omega) (by show 1 * x.toNat ≤ 2 ^ 24; omega) fun h' F' N' => by
    refine k _ (List.replicate x.toNat (.int 0 t)) h' (ints_rep t _) F' ?_ fun p hp => Heap.lt_size (N p hp).1
    rw [show (List.foldl (fun x1 x2 => x1 ++ x2) (#[] : Array Value) (List.replicate (if (#[Value.int 0 t] : Array Value).isEmpty = true then 0 else x.toNat) #[.int 0 t])) = (List.replicate x.toNat (.int 0 t)).toArray from flat_rep _ _] at N'
    exact N'
theorem lenInts {prog : Program} {w : World} {A : Around} {E : Value → Shared → Prop} {s : Shared} {h₀ : Heap} {L l : Addr} {news : List (Addr × Obj)} {vs : List Value} {ns : List Int} {n : Nat} {Q : Value → Shared → Prop}
    (N : News h₀ L s.heap news) (hm : (l, listOf vs.toArray n) ∈ news) (hi : IntsAre vs ns) (hz : ns.length ≤ 1000000) (h : ∀ t tk, Q (.int ns.length t) { s with toks := tk }) :
    wpAny (model prog w) A (call (.builtin "len") [.ref l]) Q E s := by
  have e : (List.toArray vs).size = ns.length := by rw [List.size_toArray]; exact hi.length
  exact call_len_list (PySem.IsL.isList (n := n) (N _ hm).1) (by rw [e]; omega) (by rw [e]; exact h _ _)
section
variable {h₀ h : Heap} {L : Addr} {a b c d e f : Addr × Obj} {r : List (Addr × Obj)}
theorem news_pull1 (N : News h₀ L h (a :: b :: r)) : News h₀ L h (b :: a :: r) := fun p hp => N p (by simp only [List.mem_cons] at hp ⊢; grind)
theorem news_pull4 (N : News h₀ L h (a :: b :: c :: d :: e :: r)) : News h₀ L h (e :: a :: b :: c :: d :: r) := fun p hp => N p (by simp only [List.mem_cons] at hp ⊢; grind)
end
theorem allLt_get {d : Nat} : ∀ {l : List (Addr × Obj)}, AllLt d l → ∀ p ∈ l, p.1 < d
  | [], _, _, h => nomatch h
  | _ :: _, ⟨h, _⟩, _, .head _ => h
  | _ :: _, ⟨_, r⟩, _, .tail _ m => allLt_get r _ m
theorem allLt_ne {d e : Nat} {l : List (Addr × Obj)} (h : AllLt d l) (hd : d ≤ e) : ∀ p ∈ l, p.1 ≠ e := fun p hp => Nat.ne_of_lt (Nat.lt_of_lt_of_le (allLt_get h p hp) hd)
theorem drop3 {h₀ h : Heap} {L : Addr} {a b c : Addr × Obj} {W news : List (Addr × Obj)} (N : News h₀ L h news) (h1 : a ∈ news) (h2 : b ∈ news) (h3 : c ∈ news) (hW : ∀ p ∈ W, p ∈ news) : News h₀ L h (a :: b :: c :: W) :=
  fun p hp => N p (by
    rcases List.mem_cons.mp hp with rfl | hp
    · exact h1
    · rcases List.mem_cons.mp hp with rfl | hp
      · exact h2
      · rcases List.mem_cons.mp hp with rfl | hp
        · exact h3
        · exact hW p hp)
theorem truthyInts {prog : Program} {w : World} {A : Around} {E : Value → Shared → Prop} {s : Shared} {h₀ : Heap} {L l : Addr} {news : List (Addr × Obj)} {vs : List Value} {ns : List Int} {n : Nat} {Q : Bool → Shared → Prop}
    (N : News h₀ L s.heap news) (hm : (l, listOf vs.toArray n) ∈ news) (hi : IntsAre vs ns) (hz : ns.length ≤ 1000000) (h1 : 0 < ns.length → ∀ tk, Q true { s with toks := tk }) (h2 : ns = [] → ∀ tk, Q false { s with toks := tk }) :
    wpAny (model prog w) A (truthy (.ref l)) Q E s := by
  have e : (List.toArray vs).size = ns.length := by rw [List.size_toArray]; exact hi.length
  refine wpAny_truthy_list (PySem.IsL.isList (n := n) (N _ hm).1) (by rw [e]; omega) ?_
  cases hi with
  | nil => exact h2 rfl _
  | cons a t r => exact h1 (by simp) _
theorem drop2 {h₀ h : Heap} {L : Addr} {b c : Addr × Obj} {W news : List (Addr × Obj)} (N : News h₀ L h news) (h2 : b ∈ news) (h3 : c ∈ news) (hW : ∀ p ∈ W, p ∈ news) : News h₀ L h (b :: c :: W) :=
  fun p hp => N p (by
    rcases List.mem_cons.mp hp with rfl | hp
    · exact h2
    · rcases List.mem_cons.mp hp with rfl | hp
      · exact h3
      · exact hW p hp)
theorem rev_ind {prog : Program} {w : World} {A : Around} {E : Value → Shared → Prop} {h₀ : Heap} {env : Env} {x : Str} {body : List Stmt} {Q : Flow → Shared → Prop} {s : Shared} {I : Addr} {lp : Addr × Obj}
    (Inv : List Value → (Str → Option Value) → List (Addr × Obj) → Prop)
    (step : ∀ v r m news (it : Obj) h tk, Inv (v :: r) m news → it.cls = .type "list_reverseiterator" → Fr h₀ env.locals h (fun y => if y = x then some v else m y) → News h₀ env.locals h ((I, it) :: news) →
      wpAny (model prog w) A (execs body env) (UnrPost h₀ env.locals { s with heap := h, toks := tk } I it (fun m' n' => lp ∈ n' ∧ Inv r m' n') Q) E { s with heap := h, toks := tk })
    (fin : ∀ m news h tk, Inv [] m news → Fr h₀ env.locals h m → News h₀ env.locals h news → Q .next { s with heap := h, toks := tk }) :
    ∀ (rest : List Value) m news, Inv rest m news → RevRest prog w A E h₀ env x body Q s I lp rest m news
  | [], m, news, h0 => RevRest.zero fun h tk F N => fin m news h tk h0 F N
  | v :: r, m, news, h0 => RevRest.succ fun it h tk hit F N => by
    refine wpAny_mono (step v r m news it h tk h0 hit F N) (fun fl s' hp => ?_) fun _ _ y => y
    unfold UnrPost at hp ⊢
    cases fl with
    | ret v => exact hp
    | brk => exact hp
    | next =>
      obtain ⟨h', tk', m', n', e, F', N', off, hl, hI⟩ := hp
      exact ⟨h', tk', m', n', e, F', N', off, hl, rev_ind Inv step fin r m' n' hI⟩
    | cont =>
      obtain ⟨h', tk', m', n', e, F', N', off, hl, hI⟩ := hp
      exact ⟨h', tk', m', n', e, F', N', off, hl, rev_ind Inv step fin r m' n' hI⟩
theorem rev_start {prog : Program} {w : World} {A : Around} {E : Value → Shared → Prop} {h₀ : Heap} {env : Env} {x : Str} {body : List Stmt} {Q : Flow → Shared → Prop} {s : Shared} {I : Addr} {lp : Addr × Obj} {rest : List Value} {m : Str → Option Value} {news : List (Addr × Obj)}
    (Inv : List Value → (Str → Option Value) → List (Addr × Obj) → Prop) (h0 : Inv rest m news)
    (step : ∀ v r m news (it : Obj) h tk, Inv (v :: r) m news → it.cls = .type "list_reverseiterator" → Fr h₀ env.locals h (fun y => if y = x then some v else m y) → News h₀ env.locals h ((I, it) :: news) →
      wpAny (model prog w) A (execs body env) (UnrPost h₀ env.locals { s with heap := h, toks := tk } I it (fun m' n' => lp ∈ n' ∧ Inv r m' n') Q) E { s with heap := h, toks := tk })
    (fin : ∀ m news h tk, Inv [] m news → Fr h₀ env.locals h m → News h₀ env.locals h news → Q .next { s with heap := h, toks := tk }) : Stop (RevRest prog w A E h₀ env x body Q s I lp rest m news) := rev_ind Inv step fin rest m news h0
theorem offI_of {I : Addr} {it : Obj} : ∀ {l : List (Addr × Obj)}, (∀ p ∈ l, p.1 ≠ I) → OffI I it l
  | [], _ => trivial
  | p :: _, h => ⟨Or.inl (h p (.head _)), offI_of fun q hq => h q (.tail _ hq)⟩
theorem ints_append : ∀ {vs ws : List Value} {ns ms : List Int}, IntsAre vs ns → IntsAre ws ms → IntsAre (vs ++ ws) (ns ++ ms)
  | _, _, _, _, .nil, h => h
  | _, _, _, _, .cons n t r, h => .cons n t (ints_append r h)
theorem ints_reverse : ∀ {vs : List Value} {ns : List Int}, IntsAre vs ns → IntsAre vs.reverse ns.reverse
  | _, _, .nil => .nil
  | _, _, .cons n t r => by
    rw [List.reverse_cons, List.reverse_cons]
    exact ints_append (ints_reverse r) (.cons n t .nil)
theorem revInts {prog : Program} {w : World} {A : Around} {E : Value → Shared → Prop} {s : Shared} {h₀ : Heap} {L D : Addr} {m : Str → Option Value} {news news' : List (Addr × Obj)} {vs : List Value} {n : Nat} {Q : Value → Shared → Prop}
    (F : Fr h₀ L s.heap m) (N : News h₀ L s.heap news) (hz : vs.length ≤ 1000) (U : Upd D (listOf vs.toArray n) (listOf vs.reverse.toArray n) news news') (h : ∀ h', Fr h₀ L h' m → News h₀ L h' news' → Q .none { s with heap := h' }) :
    wpAny (model prog w) A (call (.builtin "list.reverse") [.ref D]) Q E s :=
  kl_reverse F N (by simp) U (by show vs.toArray.toList.length ≤ 2 ^ 24; simp; omega) h
theorem drop5 {h₀ h : Heap} {L : Addr} {a b c d e : Addr × Obj} {W news : List (Addr × Obj)} (N : News h₀ L h news) (h1 : a ∈ news) (h2 : b ∈ news) (h3 : c ∈ news) (h4 : d ∈ news) (h5 : e ∈ news) (hW : ∀ p ∈ W, p ∈ news) : News h₀ L h (a :: b :: c :: d :: e :: W) :=
  fun p hp => N p (by
    simp only [List.mem_cons] at hp
    rcases hp with rfl | rfl | rfl | rfl | rfl | hp
    · exact h1
    · exact h2
    · exact h3
    · exact h4
    · exact h5
    · exact hW p hp)
end Mine
end SecbBs
local macro_rules | `(tactic| walk_at $s:str) => `(tactic| k_extra $s)
local macro_rules | `(tactic| k_room) => `(tactic| ktr_room) | `(tactic| k_all) => `(tactic| first | assumption | exact Mine.allLt_ne (by assumption) (by omega)) | `(tactic| k_mem) => `(tactic| first | exact List.Mem.head _ | assumption | (refine' List.Mem.tail _ ?_; k_mem))
section SecbMt
theorem Mine.offbMt : True := by
  w_top off
  k_with_none
  trivial
open PySem PySem.W
namespace Mine
noncomputable def val (n : Nat) : List Int → Int
  | [] => 0
  | d :: r => d + 2 ^ n * val n r
theorem val_append (n : Nat) (b : List Int) : ∀ a : List Int, val n (a ++ b) = val n a + 2 ^ (n * a.length) * val n b
  | [] => by simp [val]
  | d :: r => by
    rw [List.cons_append, val, val, val_append n b r, List.length_cons, Nat.mul_succ, Int.pow_add, Int.mul_add, ← Int.mul_assoc, Int.mul_comm (2 ^ (n * r.length)) (2 ^ n)]
    omega
def Fil (n : Int) (ns ns' : List Int) (x l r : Int) : Prop :=
  ns'.length = ns.length ∧ ns'.take l.toNat = ns.take l.toNat ∧ ns'.drop r.toNat = ns.drop r.toNat ∧ val n.toNat ((ns'.drop l.toNat).take (r.toNat - l.toNat)) = x ∧ ∀ v ∈ (ns'.drop l.toNat).take (r.toNat - l.toNat), 0 ≤ v ∧ v ≤ x
theorem toNat_succ {l r : Int} (h0 : 0 ≤ l) (h1 : l + 1 = r) : r.toNat = l.toNat + 1 := by omega
theorem fil_one {n x l r : Int} {ns : List Int} (h0 : 0 ≤ l) (h1 : l + 1 = r) (h2 : r ≤ ns.length) (hx : 0 ≤ x) : Fil n ns (ns.set l.toNat x) x l r := by
  have hr := toNat_succ h0 h1
  have hl : l.toNat < ns.length := Nat.lt_of_lt_of_le (hr ▸ Nat.lt_succ_self _ : l.toNat < r.toNat) (Int.toNat_le.mpr h2)
  have hs : ((ns.set l.toNat x).drop l.toNat).take (r.toNat - l.toNat) = [x] := by
    rw [hr, Nat.add_sub_cancel_left]
    rw [List.drop_eq_getElem_cons (by simpa using hl)]
    simp
  refine ⟨List.length_set .., ?_, ?_, ?_, ?_⟩
  · rw [List.take_set_of_le (Nat.le_refl _)]
  · rw [List.drop_set_of_lt (hr ▸ Nat.lt_succ_self _)]
  · rw [hs]; simp [val]
  · rw [hs]; intro v hv; simp at hv; subst hv; exact ⟨hx, Int.le_refl _⟩
theorem low_bd (x : Int) (s : Nat) (hx : 0 ≤ x) : 0 ≤ x % 2 ^ s ∧ x % 2 ^ s ≤ x := by
  have hp : (0 : Int) < 2 ^ s := Int.pow_pos (by omega)
  have hd := Int.emod_add_mul_ediv x (2 ^ s)
  have : 0 ≤ 2 ^ s * (x / 2 ^ s) := Int.mul_nonneg (Int.le_of_lt hp) (Int.ediv_nonneg hx (Int.le_of_lt hp))
  exact ⟨Int.emod_nonneg _ (by omega), by omega⟩
theorem low_le {x : Int} (s : Nat) (hx : 0 ≤ x) : x % 2 ^ s ≤ x := (low_bd x s hx).2
theorem take_seg {a b c : Nat} (ns : List Int) (h : a ≤ b) (h2 : b ≤ c) : (ns.drop a).take (c - a) = (ns.drop a).take (b - a) ++ (ns.drop b).take (c - b) := by
  obtain ⟨k, rfl⟩ := Nat.le.dest h
  obtain ⟨m, rfl⟩ := Nat.le.dest h2
  rw [show a + k + m - a = k + m from by rw [Nat.add_assoc, Nat.add_sub_cancel_left], Nat.add_sub_cancel_left, Nat.add_sub_cancel_left, List.take_add, List.drop_drop]
theorem seg_shift {n l mid : Int} (h0 : 0 ≤ l) (h1 : l ≤ mid) (hn : 0 ≤ n) : n.toNat * (mid.toNat - l.toNat) = ((mid - l) * n).toNat := by
  obtain ⟨n, rfl⟩ := Int.eq_ofNat_of_zero_le hn
  obtain ⟨l, rfl⟩ := Int.eq_ofNat_of_zero_le h0
  obtain ⟨k, rfl⟩ := Int.le.dest h1
  rw [show (l : Int) + k - l = k from by omega, ← Int.natCast_add, ← Int.natCast_mul, Int.toNat_natCast, Int.toNat_natCast, Int.toNat_natCast, Int.toNat_natCast, Nat.add_sub_cancel_left, Nat.mul_comm]
theorem seg_len {a b : Nat} {ns : List Int} (h : b ≤ ns.length) : ((ns.drop a).take (b - a)).length = b - a := by
  rw [List.length_take, List.length_drop]
  exact Nat.min_eq_left (Nat.sub_le_sub_right h a)
theorem fil_join {n x lo up l mid r : Int} {ns ns1 ns2 : List Int} (A : Fil n ns ns1 lo l mid) (B : Fil n ns1 ns2 up mid r) (h0 : 0 ≤ l) (h1 : l ≤ mid) (h2 : mid ≤ r) (h3 : r ≤ ns.length) (hn : 0 ≤ n)
    (hlo : lo = x % 2 ^ ((mid - l) * n).toNat) (hup : up = x / 2 ^ ((mid - l) * n).toNat) (hx : 0 ≤ x) : Fil n ns ns2 x l r := by
  obtain ⟨a1, a2, a3, a4, a5⟩ := A
  obtain ⟨b1, b2, b3, b4, b5⟩ := B
  have hs := seg_shift h0 h1 hn
  have g1 := Int.toNat_le_toNat h1
  have g2 := Int.toNat_le_toNat h2
  have g3 := Int.toNat_le.mpr h3
  unfold Fil
  generalize l.toNat = a at *
  generalize mid.toNat = b at *
  generalize r.toNat = c at *
  generalize ((mid - l) * n).toNat = s at *
  have hl : lo ≤ x := hlo ▸ low_le s hx
  have hu : up ≤ x := hup ▸ Int.ediv_le_self _ hx
  have e1 : (ns2.drop a).take (b - a) = (ns1.drop a).take (b - a) := by
    rw [← List.drop_take, b2, List.drop_take]
  refine ⟨b1.trans a1, ?_, ?_, ?_, ?_⟩
  · have q : ∀ t : List Int, t.take a = (t.take b).take a := fun t => by rw [List.take_take, Nat.min_eq_left g1]
    rw [q ns2, b2, ← q, a2]
  · have q : ∀ t : List Int, t.drop c = (t.drop b).drop (c - b) := fun t => by rw [List.drop_drop, Nat.add_sub_cancel' g2]
    rw [b3, q ns1, a3, ← q]
  · rw [take_seg ns2 g1 g2, val_append, e1, a4, b4, seg_len (a1 ▸ Nat.le_trans g2 g3), hs, hlo, hup]; exact Int.emod_add_mul_ediv x _
  · rw [take_seg ns2 g1 g2]
    intro v hv
    rcases List.mem_append.mp hv with hv | hv
    · rw [e1] at hv; exact ⟨(a5 v hv).1, Int.le_trans (a5 v hv).2 hl⟩
    · exact ⟨(b5 v hv).1, Int.le_trans (b5 v hv).2 hu⟩
theorem and_high (a s : Nat) : a &&& (a / 2 ^ s * 2 ^ s) = a / 2 ^ s * 2 ^ s := by
  apply Nat.eq_of_testBit_eq
  intro i
  rw [Nat.testBit_and, ← Nat.shiftLeft_eq, ← Nat.shiftRight_eq_div_pow, Nat.testBit_shiftLeft, Nat.testBit_shiftRight]
  by_cases h : s ≤ i
  · have : s + (i - s) = i := by omega
    simp [h, this]
  · simp [h]
theorem xor_low (x : Int) (s : Nat) (hx : 0 ≤ x) : Builtin.bitXor x (x.fdiv (2 ^ s) * 2 ^ s) = x % 2 ^ s := by
  have hp : (0 : Int) < 2 ^ s := Int.pow_pos (by omega)
  rw [Int.fdiv_eq_ediv_of_nonneg _ (Int.le_of_lt hp)]
  have hd := Int.emod_add_mul_ediv x (2 ^ s)
  rw [Int.mul_comm] at hd
  obtain ⟨a, rfl⟩ := Int.eq_ofNat_of_zero_le hx
  have e : ((a : Int) / 2 ^ s * 2 ^ s) = ((a / 2 ^ s * 2 ^ s : Nat) : Int) := by
    push_cast; rfl
  have ea : Builtin.bitAnd (a : Int) ((a / 2 ^ s * 2 ^ s : Nat) : Int) = ((a / 2 ^ s * 2 ^ s : Nat) : Int) := by
    have h1 : decide (0 ≤ (a : Int)) = true := decide_eq_true (by omega)
    have h2 : decide (0 ≤ ((a / 2 ^ s * 2 ^ s : Nat) : Int)) = true := decide_eq_true (by omega)
    unfold Builtin.bitAnd
    rw [h1, h2]
    show (((a : Int).toNat &&& ((a / 2 ^ s * 2 ^ s : Nat) : Int).toNat : Nat) : Int) = _
    rw [Int.toNat_natCast, Int.toNat_natCast, and_high]
  rw [PyProof.Rows.bitXor_and, e, ea]
  rw [e] at hd
  omega
theorem fdiv_le {a n : Int} (hn : 0 < n) (ha : 0 ≤ a) : 0 ≤ a.fdiv n ∧ a.fdiv n ≤ a := by
  rw [Int.fdiv_eq_ediv_of_nonneg _ (Int.le_of_lt hn)]
  exact ⟨Int.ediv_nonneg ha (Int.le_of_lt hn), Int.ediv_le_self _ ha⟩
theorem mid_eq (l r : Int) : (l + r).fdiv (2 ^ Int.toNat 1) = (l + r) / 2 := by
  have : (2 : Int) ^ Int.toNat 1 = 2 := by decide
  rw [this, Int.fdiv_eq_ediv_of_nonneg _ (by omega)]
theorem sh_bd {a n : Int} (h0 : 0 ≤ a) (h1 : a ≤ 1000) (hn : 0 ≤ n) (hn2 : n ≤ 64) : 0 ≤ a * n ∧ a * n ≤ 64000 := by
  refine ⟨Int.mul_nonneg h0 hn, ?_⟩
  have := Int.mul_le_mul h1 hn2 hn (by omega)
  omega
theorem up_bd (x : Int) (s : Nat) (hx : 0 ≤ x) : 0 ≤ x.fdiv (2 ^ s) ∧ x.fdiv (2 ^ s) ≤ x := fdiv_le (Int.pow_pos (by omega)) hx
theorem fdiv_pos {a n : Int} (hn : 0 < n) (ha : 1 ≤ a) : 1 ≤ (a + n - 1).fdiv n := by
  rw [Int.fdiv_eq_ediv_of_nonneg _ (Int.le_of_lt hn)]
  exact (Int.le_ediv_iff_mul_le hn).mpr (by omega)
theorem intBits_pos {x : Int} (h : x ≠ 0) (_ : 0 ≤ x) : (1 : Int) ≤ ↑(Builtin.Int.intBits x) := by
  unfold Builtin.Int.intBits
  have : (x == 0) = false := by simpa using h
  rw [this]
  simp only [Bool.false_eq_true, if_false]
  omega
theorem fil_all {n x r : Int} {ns ns' : List Int} (h : Fil n ns ns' x 0 r) (hr : r = ns.length) : val n.toNat ns' = x ∧ (∀ d ∈ ns', 0 ≤ d ∧ d ≤ x) ∧ ns'.length = ns.length := by
  obtain ⟨h1, _, _, h4, h5⟩ := h
  have e : (ns'.drop (Int.toNat 0)).take (r.toNat - Int.toNat 0) = ns' := by
    show ns'.take (r.toNat - 0) = ns'
    rw [Nat.sub_zero]
    exact List.take_of_length_le (by omega)
  rw [e] at h4 h5
  exact ⟨h4, h5, h1⟩
theorem val_zero (n : Nat) : ∀ k : Nat, val n (List.replicate k 0) = 0
  | 0 => rfl
  | k + 1 => by rw [List.replicate_succ, val, val_zero n k]; simp
theorem seg_one {n : Nat} {l r : Int} {ns : List Int} (h0 : 0 ≤ l) (h1 : l + 1 = r) (h2 : r ≤ ns.length) : val n ((ns.drop l.toNat).take (r.toNat - l.toNat)) = ns.getD l.toNat 0 := by
  have hq := toNat_succ h0 h1
  have hl : l.toNat < ns.length := Nat.lt_of_lt_of_le (hq ▸ Nat.lt_succ_self _ : l.toNat < r.toNat) (Int.toNat_le.mpr h2)
  have hr : r.toNat - l.toNat = 1 := by rw [hq, Nat.add_sub_cancel_left]
  rw [hr, List.drop_eq_getElem_cons hl, List.getD_eq_getElem?_getD, List.getElem?_eq_getElem hl]
  show ns[l.toNat] + 2 ^ n * val n [] = _
  show ns[l.toNat] + 2 ^ n * 0 = ns[l.toNat]
  omega
theorem seg_join {n l mid r : Int} {ns : List Int} (h0 : 0 ≤ l) (h1 : l ≤ mid) (h2 : mid ≤ r) (h3 : r ≤ ns.length) (hn : 0 ≤ n) :
    val n.toNat ((ns.drop l.toNat).take (r.toNat - l.toNat)) = val n.toNat ((ns.drop mid.toNat).take (r.toNat - mid.toNat)) * 2 ^ ((mid - l) * n).toNat + val n.toNat ((ns.drop l.toNat).take (mid.toNat - l.toNat)) := by
  have g1 := Int.toNat_le_toNat h1
  have g2 := Int.toNat_le_toNat h2
  have g3 := Int.toNat_le.mpr h3
  rw [take_seg ns g1 g2, val_append, seg_len (Nat.le_trans g2 g3), seg_shift h0 h1 hn, Int.mul_comm, Int.add_comm]
theorem seg_all {n : Nat} {r : Int} {ns : List Int} (h : r = ns.length) : val n ((ns.drop (Int.toNat 0)).take (r.toNat - Int.toNat 0)) = val n ns := by
  show val n (ns.take (r.toNat - 0)) = _
  rw [List.take_of_length_le (by omega)]
theorem val_nonneg (n : Nat) : ∀ {ns : List Int}, (∀ d ∈ ns, 0 ≤ d) → 0 ≤ val n ns
  | [], _ => Int.le_refl _
  | d :: r, h => by
    have h1 := h d (.head _)
    have h2 := val_nonneg n fun x hx => h x (.tail _ hx)
    have : 0 ≤ 2 ^ n * val n r := Int.mul_nonneg (Int.le_of_lt (Int.pow_pos (by omega))) h2
    show 0 ≤ d + 2 ^ n * val n r
    omega
theorem val_le_mul (n k : Nat) {v : Int} (h : 0 ≤ v) : v ≤ 2 ^ (n * k) * v := by
  have : (1 : Int) ≤ 2 ^ (n * k) := Int.pow_pos (by omega)
  have := Int.mul_le_mul_of_nonneg_right this h
  omega
theorem seg_bd {n a b : Nat} {ns : List Int} (h : ∀ d ∈ ns, 0 ≤ d) (hv : val n ns < 2 ^ 60) : 0 ≤ val n ((ns.drop a).take b) ∧ val n ((ns.drop a).take b) < 2 ^ 60 := by
  have e : ns = ns.take a ++ ((ns.drop a).take b ++ (ns.drop a).drop b) := by rw [List.take_append_drop, List.take_append_drop]
  have p1 : 0 ≤ val n (ns.take a) := val_nonneg n fun x hx => h x (List.mem_of_mem_take hx)
  have p2 : 0 ≤ val n ((ns.drop a).take b) := val_nonneg n fun x hx => h x (List.mem_of_mem_drop (List.mem_of_mem_take hx))
  have p3 : 0 ≤ val n ((ns.drop a).drop b) := val_nonneg n fun x hx => h x (List.mem_of_mem_drop (List.mem_of_mem_drop hx))
  refine ⟨p2, ?_⟩
  rw [e, val_append, val_append] at hv
  have q3 := val_le_mul n ((ns.drop a).take b).length p3
  have q2 := val_le_mul n (ns.take a).length (v := val n ((ns.drop a).take b) + 2 ^ (n * ((ns.drop a).take b).length) * val n ((ns.drop a).drop b)) (by omega)
  omega
noncomputable def hor (n : Nat) (l : List Int) : Int := val n l.reverse
theorem hor_snoc (n : Nat) (l : List Int) (d : Int) : hor n (l ++ [d]) = d + 2 ^ n * hor n l := by
  unfold hor; rw [List.reverse_append]; rfl
theorem hor_step {n : Nat} {y r d : Int} {done qs : List Int} (hy : 0 < y) (h : hor n done = y * hor n qs + r) : hor n (done ++ [d]) = y * hor n (qs ++ [(r * 2 ^ n + d).fdiv y]) + (r * 2 ^ n + d).fmod y := by
  rw [hor_snoc, hor_snoc, h]
  have e := Int.mul_fdiv_add_fmod (r * 2 ^ n + d) y
  rw [Int.mul_add, Int.mul_add, ← Int.mul_assoc, ← Int.mul_assoc, Int.mul_comm (2 ^ n) y, Int.mul_comm (2 ^ n) r]
  generalize y * (r * 2 ^ n + d).fdiv y = u at *
  generalize y * 2 ^ n * hor n qs = v at *
  omega
theorem hor_fin {n : Nat} {x y r : Int} {ds qs : List Int} (hy : 0 < y) (hr : 0 ≤ r) (hr2 : r < y) (hv : val n ds = x) (h : hor n ds.reverse = y * hor n qs + r) : val n qs.reverse = x.fdiv y ∧ r = x.fmod y := by
  have e1 : hor n ds.reverse = x := by unfold hor; rw [List.reverse_reverse]; exact hv
  rw [e1] at h
  have e : val n qs.reverse = hor n qs := rfl
  rw [e, Int.fdiv_eq_ediv_of_nonneg _ (Int.le_of_lt hy), Int.fmod_eq_emod_of_nonneg _ (Int.le_of_lt hy)]
  have := (Int.ediv_emod_unique hy (a := x) (r := r) (q := hor n qs)).mpr ⟨by omega, hr, hr2⟩
  exact ⟨this.1.symm, this.2.symm⟩
theorem shl_bd {r : Int} {n : Nat} (h0 : 0 ≤ r) (h1 : r < 2 ^ 20) (hn : n ≤ 20) : 0 ≤ r * 2 ^ (n : Int).toNat ∧ r * 2 ^ (n : Int).toNat < 2 ^ 40 := by
  rw [Int.toNat_natCast]
  have hp : (0 : Int) < 2 ^ n := Int.pow_pos (by omega)
  have hq : (2 : Int) ^ n ≤ 2 ^ 20 := by exact_mod_cast Nat.pow_le_pow_right (by omega) hn
  refine ⟨Int.mul_nonneg h0 (Int.le_of_lt hp), ?_⟩
  have := Int.mul_lt_mul h1 hq hp (by omega)
  omega
end Mine
end SecbMt
section SecbMn
theorem Mine.offbMn : True := by
  w_top off
  k_with_none
  trivial
open PySem PySem.W
namespace Mine
theorem neg_div (x y : Int) (hy : 0 < y) : Builtin.bitNot ((Builtin.bitNot x).fdiv y) = x.fdiv y ∧ y + Builtin.bitNot ((Builtin.bitNot x).fmod y) = x.fmod y := by
  unfold Builtin.bitNot
  simp only [Int.fdiv_eq_ediv_of_nonneg _ (Int.le_of_lt hy), Int.fmod_eq_emod_of_nonneg _ (Int.le_of_lt hy)]
  have h1 := Int.mul_ediv_add_emod (-x - 1) y
  have h2 := Int.emod_nonneg (-x - 1) (Int.ne_of_gt hy)
  have h3 := Int.emod_lt_of_pos (-x - 1) hy
  have key := (Int.ediv_emod_unique hy (a := x) (r := y + (-((-x - 1) % y) - 1)) (q := -((-x - 1) / y) - 1)).mpr ⟨by
    have : y * (-((-x - 1) / y) - 1) = -(y * ((-x - 1) / y)) - y := by rw [Int.mul_sub, Int.mul_neg, Int.mul_one]
    rw [this]; omega, by omega, by omega⟩
  exact ⟨key.1.symm, key.2.symm⟩
end Mine
end SecbMn
section SecbC1
theorem Mine.offbC1 : True := by
  w_top off
  k_with_none
  trivial
open PySem PySem.W PyProof.Rows PySem.Spec PySem.Calls
set_option maxRecDepth 100000
set_option maxHeartbeats 8000000
namespace Mine
abbrev Ct (w : World) (f : Addr) (vs : List Value) (d : Nat) (news : List (Addr × Obj)) (Ret : Value → List (Addr × Obj) → Prop) : Prop :=
  ∀ (p : Program) (loose : List Str) (mean : ExcName → Option Value) (mg mb : Str → Option Value) (dp un : Nat) (gd : Option (List Code)) (cn : Str) (cs : Scope) (a : Addr) (ccd : Value) (cl : List (Str × Addr)) (outer : List Env) (A₀ : Around) (base h₀ : Heap) (L : Addr) (m : Str → Option Value) (s : Shared) (Q E : Value → Shared → Prop),
    Below A₀ base outer h₀ → CodeHd base 34 30 → CodeHd base 41 37 → CodeHd base 62 58 → Fr h₀ L s.heap m → (hd2.heap_39 w.params).In h₀ → News h₀ L s.heap news → Top p loose mean mg mb h₀ → cs.kind = .function → dp + d < recursionLimit → un + 8 * d < cLine →
    (∀ r news' h' tk', Fr h₀ L h' m → News h₀ L h' news' → Ret r news' → Q r { s with heap := h', toks := tk' }) →
    wpAny (model PySem.Challenge.rw_nq0126_02.row.prog w) (ktrTop dp un gd cn cs L a ccd cl outer) (call (.ref f) vs) Q E s
abbrev pairObj (q r : Int) (t1 t2 : Tok) : Obj := { cls := .type "tuple", data := .seq #[.int q t1, .int r t2] }
abbrev RetPair (news : List (Addr × Obj)) (q r : Int) : Value → List (Addr × Obj) → Prop := fun v news' =>
  ∃ t t1 t2, v = .ref t ∧ news' = (t, pairObj q r t1 t2) :: news ∧ ∀ p ∈ news, p.1 < t
theorem div2n1n (w : World) (news : List (Addr × Obj)) (x y n : Int) (tx ty tn : Tok) (hx : 0 ≤ x) (hy : 0 < y) (hx2 : x < 2 ^ 60) (hy2 : y < 2 ^ 30) (hn : 0 ≤ n) :
    Ct w 21 [.int x tx, .int y ty, .int n tn] 1 news (RetPair news (Int.fdiv x y) (Int.fmod x y)) := by
  have hb : Builtin.Int.intBits x ≤ 64 := intBits_le_64 (by omega) (by omega)
  unfold Ct; k_fill
  intro p loose mean mg mb dp un gd cn cs a ccd cl outer A₀ base h₀ L m s Q E B C1 C2 C3 F X N T hk hd hu hret
  refine wpAny_call ?_
  k_dflt ktr_enter
  w_strict k_steps
  all_goals exact hret _ _ _ _ (by k_asm) (by k_asm) ⟨_, _, _, rfl, rfl, fun q hq => Heap.lt_size ((show News _ _ _ news from by assumption) q hq).1⟩
end Mine
end SecbC1
section SecbI2
theorem Mine.offbI2 : True := by
  w_top off
  k_with_none
  trivial
open PySem PySem.W PyProof.Rows PySem.Spec PySem.Calls
set_option maxRecDepth 100000
set_option maxHeartbeats 8000000
namespace Mine
theorem off_of {c d : Addr} {oc : Obj} {W : List (Addr × Obj)} (hm : (c, oc) ∈ W) (h : ∀ p ∈ W, p.1 ≠ d) : c ≠ d := h _ hm
theorem updF_own {P : Addr} {o : Obj} {W : List (Addr × Obj)} (hW : ∀ p ∈ W, p.1 ≠ P) : ∀ own : List (Addr × Obj), (∀ q ∈ own, q.1 ≠ P) → UpdF P o (own ++ (P, o) :: W) (fun o' => own ++ (P, o') :: W)
  | [], _ => .head hW
  | q :: own, h => .tail (h q (.head _)) (updF_own hW own fun x hx => h x (.tail _ hx))
theorem nestBoth {M : Model} {A : Around} {E : Value → Shared → Prop} {s : Shared} {h₀ : Heap} {L a c P : Addr} {m mg mb : Str → Option Value} {cn : Str} {cs : Scope} {ccd : Value} {cl : List (Str × Addr)}
  {p : Program} {loose : List Str} {mean : ExcName → Option Value} {name qual : Str} {params : Arguments} {body : List Stmt} {scope : Scope} {ps : Array Value} {pos : Pos} {firstLine : Nat} {clos : List (Str × Addr)} {Q : Value → Shared → Prop} {own W news : List (Addr × Obj)}
  (F : Fr h₀ L s.heap m) (N : News h₀ L s.heap news) (hn : news = own ++ (P, tabObj ps) :: W) (T : Top p loose mean mg mb h₀) (C : CodeHd h₀ c P) (hcd : ccd = .ref c)
  (hps : ps = #[] ∨ ∃ c oc cvs ct, ps = #[rawInt pos.line, rawInt pos.col, .ref c] ∧ (c, oc) ∈ W ∧ oc.data = .fields cvs ∧ cvs[1]? = some (.str qual ct))
  (hWP : ∀ p ∈ W, p.1 ≠ P) (hoP : ∀ q ∈ own, q.1 ≠ P) (hoW : ∀ q ∈ own, ∀ p ∈ W, p.1 ≠ q.1)
  (hcl : closureFor scope (envX cn cs L a ccd cl) = pure clos)
  (h : ∀ f c' oc vs t ctv doc h' tk W', Fr h₀ L h' m → News h₀ L h' ((f, fnMade name qual params body scope clos doc ((mg "__name__").getD .none) c' ctv) :: (own ++ (P, tabObj #[rawInt pos.line, rawInt pos.col, .ref c']) :: W')) →
     (c', oc) ∈ W' → oc.data = .fields vs → vs[1]? = some (.str qual t) → (∀ q ∈ own ++ (P, tabObj #[rawInt pos.line, rawInt pos.col, .ref c']) :: W', q.1 < f) → (∀ p ∈ W', p.1 ≠ P) → (∀ q ∈ own, ∀ p ∈ W', p.1 ≠ q.1) → (∀ p ∈ W, p ∈ W') →
     (ps = #[rawInt pos.line, rawInt pos.col, .ref c'] ∨ ∀ p ∈ W, p.1 < c') → Q (.ref f) { s with heap := h', toks := tk }) :
    wpAny M A (makeFunction name qual params (.stmts body) scope (envX cn cs L a ccd cl) [] [] [] pos firstLine) Q E s := by
  subst hn
  rcases hps with rfl | ⟨c', oc, cvs, ct, rfl, hm, hd, hv⟩
  · refine nest_K F N T C hcd (updF_own hWP own hoP) True.intro rfl hcl fun f c' oc vs t ctv doc h' tk F' N' d1 d2 l1 l2 => ?_
    have lo : ∀ q ∈ own, q.1 < c' := fun q hq => l1 q (List.mem_append_left _ hq)
    have lP : P < c' := l1 (P, _) (List.mem_append_right _ (.head _))
    have lW : ∀ q ∈ W, q.1 < c' := fun q hq => l1 q (List.mem_append_right _ (.tail _ hq))
    refine h f c' oc vs t ctv doc h' tk ((c', oc) :: W) F' (fun q hq => N' q ?_) (.head _) d1 d2 ?_ ?_ ?_ (fun q hq => .tail _ hq) (.inr lW)
    · rcases List.mem_cons.mp hq with rfl | hq
      · exact .head _
      rcases List.mem_append.mp hq with hq | hq
      · exact .tail _ (.tail _ (List.mem_append_left _ hq))
      rcases List.mem_cons.mp hq with rfl | hq
      · exact .tail _ (.tail _ (List.mem_append_right _ (.head _)))
      rcases List.mem_cons.mp hq with rfl | hq
      · exact .tail _ (.head _)
      · exact .tail _ (.tail _ (List.mem_append_right _ (.tail _ hq)))
    · intro q hq
      rcases List.mem_append.mp hq with hq | hq
      · exact Nat.lt_trans (lo q hq) l2
      rcases List.mem_cons.mp hq with rfl | hq
      · exact Nat.lt_trans lP l2
      rcases List.mem_cons.mp hq with rfl | hq
      · exact l2
      · exact Nat.lt_trans (lW q hq) l2
    · intro q hq
      rcases List.mem_cons.mp hq with rfl | hq
      · exact Nat.ne_of_gt lP
      · exact hWP q hq
    · intro o ho q hq
      rcases List.mem_cons.mp hq with rfl | hq
      · exact Nat.ne_of_gt (lo o ho)
      · exact hoW o ho q hq
  · refine nestHit_K (c' := c') F N T C hcd (List.mem_append_right _ (.head _)) (by simp [TriplesOk, rawInt]) (by simp [codeAmong, rawInt]) hcl fun f ctv doc h' tk F' N' l1 => ?_
    exact h f c' oc cvs ct ctv doc h' tk W F' N' hm hd hv l1 hWP hoW (fun q hq => hq) (.inl rfl)
theorem rulesI2 : True := by
  k_with_none
  k_with "exec FunctionDef" => refine stop ?_
  k_with "call ref" => refine stop ?_
  k_with "binaryOp Mult ref int" => refine stop ?_
  k_with "call builtin:len" => refine stop ?_
  trivial
abbrev Q2 : Str := Str.ofString "_int2digits.<locals>.inner"
inductive Ret2 (ps : Array Value) (W : List (Addr × Obj)) (x n : Int) (v : Value) (news' : List (Addr × Obj)) : Prop
  | mk (dl : _) (vs : _) (ds : _) (c : _) (oc : _) (cvs : _) (ct : _) (w1 : v = .ref dl) (w2 : news' = (dl, listOf vs.toArray 0) :: (30, tabObj #[rawInt 32, rawInt 4, .ref c]) :: (c, oc) :: W) (w3 : IntsAre vs ds) (w4 : val n.toNat ds = x) (w5 : (∀ d ∈ ds, 0 ≤ d ∧ d ≤ x)) (w6 : ds.length ≤ 128) (w7 : oc.data = .fields cvs) (w8 : cvs[1]? = some (.str (Str.ofString "_int2digits.<locals>.inner") ct)) (w9 : (∀ p ∈ W, p.1 < dl)) (w10 : 30 < dl) (w11 : c ≠ dl) (w12 : c ≠ 30) (w13 : ps = #[rawInt 32, rawInt 4, .ref c] ∨ ∀ p ∈ W, p.1 < c)
def InnerOk (w : World) (f dl : Addr) (n : Int) (W : List (Addr × Obj)) : Prop :=
  ∀ (d : Nat) (x l r : Int) (tx tl tr : Tok) (vs : List Value) (ns : List Int) (k : Nat), 0 ≤ x → x < 2 ^ 60 → 0 ≤ l → l < r → r ≤ ns.length → r - l ≤ d → ns.length ≤ 1000 → IntsAre vs ns →
   Ct w f [.int x tx, .int l tl, .int r tr] (d + 1) ((dl, listOf vs.toArray k) :: W) (fun v news' => v = .none ∧ ∃ (vs' : List Value) (ns' : List Int), news' = (dl, listOf vs'.toArray k) :: W ∧ IntsAre vs' ns' ∧ Fil n ns ns' x l r)
theorem inner_start {prog : Program} {w : World} {A : Around} {f dl : Addr} {args : List Value} {Q E : Value → Shared → Prop} {s : Shared} {h₀ h : Heap} {L : Addr} {n : Int} {W : List (Addr × Obj)} {vs : List Value} {k : Nat}
  (_N : News h₀ L h ((dl, listOf vs.toArray k) :: W)) (hI : InnerOk w f dl n W) (rest : InnerOk w f dl n W → wpAny (model prog w) A (call (.ref f) args) Q E s) :
   Stop (wpAny (model prog w) A (call (.ref f) args) Q E s) := rest hI
theorem int2_all (w : World) (W : List (Addr × Obj)) (x n : Int) (tx tn : Tok) (hx : 0 ≤ x) (hx2 : x < 2 ^ 60) (hn : 0 < n) (hn2 : n ≤ 64) (hW30 : ∀ p ∈ W, p.1 ≠ 30) (ps : Array Value) (hps : ps = #[] ∨ ∃ c oc cvs ct, ps = #[rawInt 32, rawInt 4, .ref c] ∧ (c, oc) ∈ W ∧ oc.data = .fields cvs ∧ cvs[1]? = some (.str (Str.ofString "_int2digits.<locals>.inner") ct)) :
    Ct w 35 [.int x tx, .int n tn] 200 ((30, tabObj ps) :: W) (Ret2 ps W x n) := by
  have hb : Builtin.Int.intBits x ≤ 64 := intBits_le_64 (by omega) (by omega)
  have hq := (fdiv_le (a := ↑(Builtin.Int.intBits x) + n - 1) hn (by omega)).1
  have hq2 : ((↑(Builtin.Int.intBits x) + n - 1 : Int).fdiv n) ≤ 128 := by have := (fdiv_le (a := ↑(Builtin.Int.intBits x) + n - 1) hn (by omega)).2; omega
  unfold Ct; k_fill
  intro p loose mean mg mb dp un gd cn cs a ccd cl outer A₀ base h₀ L m s Q E B C1 C2 C3 F X N T hk hd hu hret
  refine wpAny_call ?_
  k_dflt (refine' code_defC ?k1 ?k2 ?k3 ?k4 ?k5 ?kA ?kF ?kK ?k6 ?k7 ?k8 ?k9 ?kB ?kD ?_ ?c2 ?c3 ?c4; (case kA => exact rfl); (case kF => exact rfl); (case kK => assumption); (case k1 => k_asm); (case k2 => k_asm); (case k3 => k_asm); (case k4 => k_asm); (case k5 => k_asm); (case k6 => k_is); (case k7 => k_is); (case k8 => k_room); (case k9 => exact BindsTo.of_eq rfl); (case kB => exact rfl); (case kD => decide +kernel); (case c2 => exact rfl); (case c3 => exact rfl); (case c4 => exact rfl); k_whole; intro g' L' h' tk' cells' FG' F' N' Y' B' X' T' l1; (try k_lt l1); k_cells Y'; (try simp only [List.cons_append, List.nil_append] at N'); (try dsimp only); (try k_lift B'); (try k_fold))
  have hW : AllLt L' W := l1.2
  w_strict k_steps
  unfold Stop
  ((refine' mulZero ?k1 ?k2 ?k3 ?k4 ?k5 ?_; (case k1 => k_asm); (case k2 => k_asm); (case k3 => k_mem); (case k4 => assumption); (case k5 => omega); intro l' vs' h' I' F' N' l1; (try k_lt l1)))
  w_strict k_steps
  unfold Stop
  (k_dflt (refine' nestDef_K ?d0 ?k0 ?a0 ?_; (case d0 => exact rfl); (case k0 => exact rfl); (case a0 => exact rfl)); k_dflt (refine' nestBoth (own := [_, _, _, _, _]) ?F ?N ?hn ?T ?C ?cd ?hps ?wp ?op ?ow ?cl ?_; (case F => k_asm); (case N => k_asm); (case hn => exact rfl); (case T => k_asm); (case cd => exact rfl); (case C => kn_code); (case hps => assumption); (case wp => assumption); (case op => simp only [List.forall_mem_cons, List.not_mem_nil, false_implies, implies_true, and_true]; refine ⟨?_, ?_, ?_, ?_, ?_⟩ <;> (refine neN ?_; (try dsimp only); omega)); (case ow => simp only [List.forall_mem_cons, List.not_mem_nil, false_implies, implies_true, and_true]; refine ⟨?_, ?_, ?_, ?_, ?_⟩ <;> k_all); (case cl => exact rfl); k_whole); intro f' c' oc' vs' t' ct' dc' h' tk' W' F' N' m' d1' d2' l1 e1 e2 s1 g1; (try simp only [List.cons_append, List.nil_append] at N' l1); (try dsimp only at N'); (try k_lt l1); have e21 := e2 _ (.head _); have e22 := e2 _ (.tail _ (.head _)); have e23 := e2 _ (.tail _ (.tail _ (.head _))); have e24 := e2 _ (.tail _ (.tail _ (.tail _ (.head _)))); have e25 := e2 _ (.tail _ (.tail _ (.tail _ (.tail _ (.head _))))); clear e2; (try dsimp only at e21 e22 e23 e24 e25))
  w_strict k_steps
  · unfold Stop
    ((refine' lenInts ?k1 ?k2 ?k3 ?k4 ?_; (case k1 => k_asm); (case k2 => k_mem); (case k3 => assumption); (case k4 => first | assumption | omega | (simp only [List.length_replicate]; omega)); intro t' tk'))
    w_strict k_steps
    (with_reducible rename News _ _ _ _ => N9)
    refine inner_start (n := n) (news_pull1 N9) ?_ ?_
    · unfold InnerOk Ct
      intro d
      induction d with
      | zero => intros; exfalso; omega
      | succ d ih =>
      intro x l r tx tl tr vs ns k hx0 hx60 hl0 hlr hrn hrd hns hI p loose mean mg mb dp un gd cn cs a ccd cl outer A₀ base h₀ L m s Q E B C1 C2 C3 F X N T hk hd hu hret
      have hmid := mid_eq l r
      have hsh := sh_bd (a := (l + r).fdiv (2 ^ Int.toNat 1) - l) (n := n) (by omega) (by omega) (by omega) (by omega)
      have hxo := xor_low x (((l + r).fdiv (2 ^ Int.toNat 1) - l) * n).toNat hx0
      have hlo := low_bd x (((l + r).fdiv (2 ^ Int.toNat 1) - l) * n).toNat hx0
      have hup := up_bd x (((l + r).fdiv (2 ^ Int.toNat 1) - l) * n).toNat hx0
      refine wpAny_call ?_
      k_dflt (refine' code_nest ?k1 ?k2 ?k3 ?k4 ?k5 ?kA ?kF ?kK ?k6 ?k7 ?k8 ?k9 ?kB ?_ ?c2 ?c3 ?c4 ?c5; (case kA => exact rfl); (case kF => exact rfl); (case kK => assumption); (case k1 => k_asm); (case k2 => k_asm); (case k3 => k_asm); (case k4 => k_asm); (case k5 => k_asm); (case k6 => k_mem); (case k7 => exact codeRec_news (by k_asm) (by k_mem) (by assumption) (by assumption)); (case k8 => k_room); (case k9 => exact BindsTo.of_eq rfl); (case c5 => decide); (case kB => exact locs rfl); (case c2 => exact rfl); (case c3 => exact rfl); (case c4 => exact rfl); k_whole; intro g' L' h' FG' F' N' B' X' T'; (try dsimp only); (try k_lift B'); (try k_fold))
      w_strict k_steps
      · exact hret _ _ _ _ (by k_asm) (by k_asm) ⟨rfl, _, _, rfl, by assumption, fil_one hl0 (by assumption) hrn hx0⟩
      · rw [hxo]
        unfold Stop
        k_dflt (refine' ih _ _ _ _ _ _ _ _ _ ?p1 ?p2 ?p3 ?p4 ?p5 ?p6 ?p7 ?p8 _ _ _ _ _ _ _ _ _ _ _ _ _ _ _ _ _ _ _ _ _ _ ?k1 ?c1 ?c2 ?c3 ?k2 ?k3 ?k4 ?k5 ?kK ?kd ?ku ?_; (case k1 => k_asm); (case k2 => k_asm); (case k3 => k_asm); (case k4 => k_asm); (case k5 => k_asm); (case kK => first | exact rfl | assumption))
        (case p8 => assumption)
        (case p1 => omega)
        (case p2 => omega)
        (case p3 => omega)
        (case p4 => omega)
        (case p5 => omega)
        (case p6 => omega)
        (case p7 => omega)
        (case c1 => assumption)
        (case c2 => assumption)
        (case c3 => assumption)
        (case kd => dsimp only [ktrTop]; omega)
        (case ku => dsimp only [ktrTop]; omega)
        rintro r9 news9 h9 tk9 F9 N9 ⟨rfl, vs9, ns9, rfl, I9, Fl9⟩
        have e9 := Fl9.1
        dsimp only
        w_strict k_steps
        unfold Stop
        k_dflt (refine' ih _ _ _ _ _ _ _ _ _ ?p1 ?p2 ?p3 ?p4 ?p5 ?p6 ?p7 ?p8 _ _ _ _ _ _ _ _ _ _ _ _ _ _ _ _ _ _ _ _ _ _ ?k1 ?c1 ?c2 ?c3 ?k2 ?k3 ?k4 ?k5 ?kK ?kd ?ku ?_; (case k1 => k_asm); (case k2 => k_asm); (case k3 => k_asm); (case k4 => k_asm); (case k5 => k_asm); (case kK => first | exact rfl | assumption))
        (case p8 => assumption)
        (case p1 => omega)
        (case p2 => omega)
        (case p3 => omega)
        (case p4 => omega)
        (case p5 => omega)
        (case p6 => omega)
        (case p7 => omega)
        (case c1 => assumption)
        (case c2 => assumption)
        (case c3 => assumption)
        (case kd => dsimp only [ktrTop]; omega)
        (case ku => dsimp only [ktrTop]; omega)
        rintro r8 news8 h8 tk8 F8 N8 ⟨rfl, vs8, ns8, rfl, I8, Fl8⟩
        dsimp only
        w_strict k_steps
        exact hret _ _ _ _ (by k_asm) (by k_asm) ⟨rfl, _, _, rfl, I8, fil_join Fl9 Fl8 hl0 (by omega) (by omega) hrn (by omega) rfl (Int.fdiv_eq_ediv_of_nonneg _ (Int.le_of_lt (Int.pow_pos (by omega)))) hx0⟩
    · intro hI9
      have N10 := news_pull1 N9
      refine stop ?_
      unfold Stop
      k_dflt (refine' hI9 (List.replicate ((↑(Builtin.Int.intBits x) + n - 1 : Int).fdiv n).toNat (0 : Int)).length _ _ _ _ _ _ _ _ _ ?p1 ?p2 ?p3 ?p4 ?p5 ?p6 ?p7 ?p8 _ _ _ _ _ _ _ _ _ _ _ _ _ _ _ _ _ _ _ _ _ _ ?k1 ?c1 ?c2 ?c3 ?k2 ?k3 ?k4 ?k5 ?kK ?kd ?ku ?_; (case k1 => k_asm); (case k2 => k_asm); (case k3 => k_asm); (case k4 => k_asm); (case k5 => k_asm); (case kK => first | exact rfl | assumption))
      (case p8 => assumption)
      (case p1 => omega)
      (case p2 => omega)
      (case p3 => omega)
      (case p4 => have hpos := fdiv_pos hn (intBits_pos (by assumption) hx); simp only [List.length_replicate]; omega)
      (case p5 => omega)
      (case p6 => omega)
      (case p7 => simp only [List.length_replicate]; omega)
      (case c1 => assumption)
      (case c2 => assumption)
      (case c3 => assumption)
      (case kd => dsimp only [ktrTop]; (try simp only [List.length_replicate]); omega)
      (case ku => dsimp only [ktrTop]; (try simp only [List.length_replicate]); omega)
      rintro r9 news9 h9 tk9 F9 N8 ⟨rfl, vs9, ns9, rfl, I9, Fl9⟩
      dsimp only
      w_strict k_steps
      (with_reducible rename News _ _ _ _ => N7)
      (try simp only [Array.empty_append] at N7)
      have Fa := fil_all Fl9 rfl
      simp only [List.length_replicate] at Fa
      refine hret _ _ _ _ (by k_asm) (drop3 (a := (_, listOf _ 0)) (b := (30, tabObj #[rawInt 32, rawInt 4, .ref _])) (c := (_, _)) N7 (by k_mem) (by k_mem) (by k_mem) (by intro q hq; repeat (first | exact (show ∀ p ∈ W, p ∈ _ from by assumption) q hq | refine List.Mem.tail _ ?_))) ⟨_, _, _, _, _, _, _, rfl, rfl, I9, Fa.1, Fa.2.1, (by omega), by assumption, by assumption, ?_, ?_, ?_, ?_, ?_⟩
      · exact fun p hp => Nat.lt_of_lt_of_le (allLt_get hW p hp) (by omega)
      · refine ltN ?_; (try dsimp only); omega
      · exact off_of (by assumption) (by assumption)
      · exact off_of (by assumption) (by assumption)
      · assumption
  · (with_reducible rename News _ _ _ _ => N7)
    (try simp only [Array.empty_append] at N7)
    refine hret _ _ _ _ (by k_asm) (drop3 (a := (_, listOf _ 0)) (b := (30, tabObj #[rawInt 32, rawInt 4, .ref _])) (c := (_, _)) N7 (by k_mem) (by k_mem) (by k_mem) (by intro q hq; repeat (first | exact (show ∀ p ∈ W, p ∈ _ from by assumption) q hq | refine List.Mem.tail _ ?_))) ⟨_, _, _, _, _, _, _, rfl, rfl, (by assumption), (by rw [val_zero]; omega), (by intro d hd; have := List.eq_of_mem_replicate hd; omega), (by rw [List.length_replicate]; omega), by assumption, by assumption, ?_, ?_, ?_, ?_, ?_⟩
    · exact fun p hp => Nat.lt_of_lt_of_le (allLt_get hW p hp) (by omega)
    · refine ltN ?_; (try dsimp only); omega
    · exact off_of (by assumption) (by assumption)
    · exact off_of (by assumption) (by assumption)
    · assumption
theorem int2_miss (w : World) (W : List (Addr × Obj)) (x n : Int) (tx tn : Tok) (hx : 0 ≤ x) (hx2 : x < 2 ^ 60) (hn : 0 < n) (hn2 : n ≤ 64) (hW30 : ∀ p ∈ W, p.1 ≠ 30) :
    Ct w 35 [.int x tx, .int n tn] 200 ((30, tabObj #[]) :: W) (Ret2 #[] W x n) := int2_all w W x n tx tn hx hx2 hn hn2 hW30 _ (.inl rfl)
theorem int2_hit (w : World) (W : List (Addr × Obj)) (x n : Int) (tx tn : Tok) (hx : 0 ≤ x) (hx2 : x < 2 ^ 60) (hn : 0 < n) (hn2 : n ≤ 64) (hW30 : ∀ p ∈ W, p.1 ≠ 30) (c : Addr) (oc : Obj) (cvs : Array Value) (ct : Tok) (hcm : (c, oc) ∈ W) (hcd : oc.data = .fields cvs) (hcv : cvs[1]? = some (.str (Str.ofString "_int2digits.<locals>.inner") ct)) :
    Ct w 35 [.int x tx, .int n tn] 200 ((30, tabObj #[rawInt 32, rawInt 4, .ref c]) :: W) (Ret2 #[rawInt 32, rawInt 4, .ref c] W x n) := int2_all w W x n tx tn hx hx2 hn hn2 hW30 _ (.inr ⟨c, oc, cvs, ct, rfl, hcm, hcd, hcv⟩)
end Mine
end SecbI2
section SecbD2
theorem Mine.offbD2 : True := by
  w_top off
  k_with_none
  trivial
open PySem PySem.W PyProof.Rows PySem.Spec PySem.Calls
set_option maxRecDepth 100000
set_option maxHeartbeats 8000000
namespace Mine
theorem rulesD2 : True := by
  k_with_none
  k_with "call ref" => refine stop ?_
  k_with "exec FunctionDef" => refine stop ?_
  k_with "truthy ref" => refine stop ?_
  k_with "call builtin:len" => refine stop ?_
  trivial
inductive RetD (ps : Array Value) (W : List (Addr × Obj)) (x : Int) (v : Value) (news' : List (Addr × Obj)) : Prop
  | mk (t : _) (c : _) (oc : _) (cvs : _) (ct : _) (w1 : v = .int x t) (w2 : news' = (37, tabObj #[rawInt 47, rawInt 4, .ref c]) :: (c, oc) :: W) (w3 : oc.data = .fields cvs) (w4 : cvs[1]? = some (.str (Str.ofString "_digits2int.<locals>.inner") ct)) (w5 : c ≠ 37) (w6 : ps = #[rawInt 47, rawInt 4, .ref c] ∨ ∀ p ∈ W, p.1 < c)
def InnerD (w : World) (f : Addr) (n : Int) (ns : List Int) (W : List (Addr × Obj)) : Prop :=
  ∀ (d : Nat) (l r : Int) (tl tr : Tok), 0 ≤ l → l < r → r ≤ ns.length → r - l ≤ d → 
   Ct w f [.int l tl, .int r tr] (d + 1) W (fun v news' => news' = W ∧ ∃ t, v = .int (val n.toNat ((ns.drop l.toNat).take (r.toNat - l.toNat))) t)
theorem innerD_start {prog : Program} {w : World} {A : Around} {f : Addr} {args : List Value} {Q E : Value → Shared → Prop} {s : Shared} {h₀ h : Heap} {L : Addr} {n : Int} {ns : List Int} {W : List (Addr × Obj)}
  (_N : News h₀ L h W) (hI : InnerD w f n ns W) (rest : InnerD w f n ns W → wpAny (model prog w) A (call (.ref f) args) Q E s) :
   Stop (wpAny (model prog w) A (call (.ref f) args) Q E s) := rest hI
theorem d2i_all (w : World) (W : List (Addr × Obj)) (ql : Addr) (vs : List Value) (ns : List Int) (k : Nat) (n : Int) (tn : Tok) (hn : 0 < n) (hn2 : n ≤ 64) (hql : (ql, listOf vs.toArray k) ∈ W) (hi : IntsAre vs ns) (hlen : ns.length ≤ 128) (hnn : ∀ d ∈ ns, 0 ≤ d) (hval : val n.toNat ns < 2 ^ 60) (hW37 : ∀ p ∈ W, p.1 ≠ 37) (ps : Array Value) (hps : ps = #[] ∨ ∃ c oc cvs ct, ps = #[rawInt 47, rawInt 4, .ref c] ∧ (c, oc) ∈ W ∧ oc.data = .fields cvs ∧ cvs[1]? = some (.str (Str.ofString "_digits2int.<locals>.inner") ct)) :
    Ct w 42 [.ref ql, .int n tn] 200 ((37, tabObj ps) :: W) (RetD ps W (val n.toNat ns)) := by
  unfold Ct; k_fill
  intro p loose mean mg mb dp un gd cn cs a ccd cl outer A₀ base h₀ L m s Q E B C1 C2 C3 F X N T hk hd hu hret
  refine wpAny_call ?_
  k_dflt (refine' code_defC ?k1 ?k2 ?k3 ?k4 ?k5 ?kA ?kF ?kK ?k6 ?k7 ?k8 ?k9 ?kB ?kD ?_ ?c2 ?c3 ?c4; (case kA => exact rfl); (case kF => exact rfl); (case kK => assumption); (case k1 => k_asm); (case k2 => k_asm); (case k3 => k_asm); (case k4 => k_asm); (case k5 => k_asm); (case k6 => k_is); (case k7 => k_is); (case k8 => k_room); (case k9 => exact BindsTo.of_eq rfl); (case kB => exact rfl); (case kD => decide +kernel); (case c2 => exact rfl); (case c3 => exact rfl); (case c4 => exact rfl); k_whole; intro g' L' h' tk' cells' FG' F' N' Y' B' X' T' l1; (try k_lt l1); k_cells Y'; (try simp only [List.cons_append, List.nil_append] at N'); (try dsimp only); (try k_lift B'); (try k_fold))
  have hW : AllLt L' W := l1.2
  have hi0 := hi
  w_strict k_steps
  unfold Stop
  (k_dflt (refine' nestDef_K ?d0 ?k0 ?a0 ?_; (case d0 => exact rfl); (case k0 => exact rfl); (case a0 => exact rfl)); k_dflt (refine' nestBoth (own := [_, _, _]) ?F ?N ?hn ?T ?C ?cd ?hps ?wp ?op ?ow ?cl ?_; (case F => k_asm); (case N => k_asm); (case hn => exact rfl); (case T => k_asm); (case cd => exact rfl); (case C => kn_code); (case hps => assumption); (case wp => assumption); (case op => simp only [List.forall_mem_cons, List.not_mem_nil, false_implies, implies_true, and_true]; refine ⟨?_, ?_, ?_⟩ <;> (refine neN ?_; (try dsimp only); omega)); (case ow => simp only [List.forall_mem_cons, List.not_mem_nil, false_implies, implies_true, and_true]; refine ⟨?_, ?_, ?_⟩ <;> k_all); (case cl => exact rfl); k_whole); intro f' c' oc' vs' t' ct' dc' h' tk' W' F' N' m' d1' d2' l1 e1 e2 s1 g1; (try simp only [List.cons_append, List.nil_append] at N' l1); (try dsimp only at N'); (try k_lt l1); have e21 := e2 _ (.head _); have e22 := e2 _ (.tail _ (.head _)); have e23 := e2 _ (.tail _ (.tail _ (.head _))); clear e2; (try dsimp only at e21 e22 e23))
  have hql' := s1 _ hql
  w_strict k_steps
  unfold Stop
  ((refine' truthyInts ?k1 ?k2 ?k3 ?k4 ?_ ?_; (case k1 => k_asm); (case k2 => k_mem); (case k3 => assumption); (case k4 => first | assumption | omega); (all_goals intro hne' tk'); (all_goals (try dsimp only))))
  · w_strict k_steps
    unfold Stop
    ((refine' lenInts ?k1 ?k2 ?k3 ?k4 ?_; (case k1 => k_asm); (case k2 => k_mem); (case k3 => assumption); (case k4 => first | assumption | omega | (simp only [List.length_replicate]; omega)); intro t' tk'))
    w_strict k_steps
    (with_reducible rename News _ _ _ _ => N9)
    refine innerD_start (n := n) (ns := ns) N9 ?_ ?_
    · unfold InnerD Ct
      intro d
      induction d with
      | zero => intros; exfalso; omega
      | succ d ih =>
      intro l r tl tr hl0 hlr hrn hrd p loose mean mg mb dp un gd cn cs a ccd cl outer A₀ base h₀ L m s Q E B C1 C2 C3 F X N T hk hd hu hret
      have hmid := mid_eq l r
      have hsh := sh_bd (a := (l + r).fdiv (2 ^ Int.toNat 1) - l) (n := n) (by omega) (by omega) (by omega) (by omega)
      refine wpAny_call ?_
      k_dflt (refine' code_nest ?k1 ?k2 ?k3 ?k4 ?k5 ?kA ?kF ?kK ?k6 ?k7 ?k8 ?k9 ?kB ?_ ?c2 ?c3 ?c4 ?c5; (case kA => exact rfl); (case kF => exact rfl); (case kK => assumption); (case k1 => k_asm); (case k2 => k_asm); (case k3 => k_asm); (case k4 => k_asm); (case k5 => k_asm); (case k6 => k_mem); (case k7 => exact codeRec_news (by k_asm) (by k_mem) (by assumption) (by assumption)); (case k8 => k_room); (case k9 => exact BindsTo.of_eq rfl); (case c5 => decide); (case kB => exact locs rfl); (case c2 => exact rfl); (case c3 => exact rfl); (case c4 => exact rfl); k_whole; intro g' L' h' FG' F' N' B' X' T'; (try dsimp only); (try k_lift B'); (try k_fold))
      w_strict k_steps
      · exact hret _ _ _ _ (by k_asm) (by k_asm) ⟨rfl, _, congrArg (fun z => Value.int z _) (seg_one hl0 (by assumption) hrn).symm⟩
      ·
        unfold Stop
        k_dflt (refine' ih _ _ _ _ ?p1 ?p2 ?p3 ?p4 _ _ _ _ _ _ _ _ _ _ _ _ _ _ _ _ _ _ _ _ _ _ ?k1 ?c1 ?c2 ?c3 ?k2 ?k3 ?k4 ?k5 ?kK ?kd ?ku ?_; (case k1 => k_asm); (case k2 => k_asm); (case k3 => k_asm); (case k4 => k_asm); (case k5 => k_asm); (case kK => first | exact rfl | assumption))
        (case p1 => omega)
        (case p2 => omega)
        (case p3 => omega)
        (case p4 => omega)
        (case c1 => assumption)
        (case c2 => assumption)
        (case c3 => assumption)
        (case kd => dsimp only [ktrTop]; omega)
        (case ku => dsimp only [ktrTop]; omega)
        rintro r9 news9 h9 tk9 F9 N9 ⟨rfl, t9, rfl⟩
        have hbd9 := seg_bd (a := ((l + r).fdiv (2 ^ Int.toNat 1)).toNat) (b := r.toNat - ((l + r).fdiv (2 ^ Int.toNat 1)).toNat) hnn hval
        dsimp only
        w_strict k_steps
        unfold Stop
        k_dflt (refine' ih _ _ _ _ ?p1 ?p2 ?p3 ?p4 _ _ _ _ _ _ _ _ _ _ _ _ _ _ _ _ _ _ _ _ _ _ ?k1 ?c1 ?c2 ?c3 ?k2 ?k3 ?k4 ?k5 ?kK ?kd ?ku ?_; (case k1 => k_asm); (case k2 => k_asm); (case k3 => k_asm); (case k4 => k_asm); (case k5 => k_asm); (case kK => first | exact rfl | assumption))
        (case p1 => omega)
        (case p2 => omega)
        (case p3 => omega)
        (case p4 => omega)
        (case c1 => assumption)
        (case c2 => assumption)
        (case c3 => assumption)
        (case kd => dsimp only [ktrTop]; omega)
        (case ku => dsimp only [ktrTop]; omega)
        rintro r8 news8 h8 tk8 F8 N8 ⟨rfl, t8, rfl⟩
        dsimp only
        w_strict k_steps
        exact hret _ _ _ _ (by k_asm) (by k_asm) ⟨rfl, _, congrArg (fun z => Value.int z _) (seg_join hl0 (by omega) (by omega) hrn (by omega)).symm⟩
    · intro hI9
      refine stop ?_
      unfold Stop
      k_dflt (refine' hI9 ns.length _ _ _ _ ?p1 ?p2 ?p3 ?p4 _ _ _ _ _ _ _ _ _ _ _ _ _ _ _ _ _ _ _ _ _ _ ?k1 ?c1 ?c2 ?c3 ?k2 ?k3 ?k4 ?k5 ?kK ?kd ?ku ?_; (case k1 => k_asm); (case k2 => k_asm); (case k3 => k_asm); (case k4 => k_asm); (case k5 => k_asm); (case kK => first | exact rfl | assumption))
      (case p1 => omega)
      (case p2 => omega)
      (case p3 => omega)
      (case p4 => omega)
      (case c1 => assumption)
      (case c2 => assumption)
      (case c3 => assumption)
      (case kd => dsimp only [ktrTop]; omega)
      (case ku => dsimp only [ktrTop]; omega)
      rintro r9 news9 h9 tk9 F9 N8 ⟨rfl, t9, rfl⟩
      dsimp only
      w_strict k_steps
      (with_reducible rename News _ _ _ _ => N7)
      (try simp only [Array.empty_append] at N7)
      refine hret _ _ _ _ (by k_asm) (drop2 (b := (37, tabObj #[rawInt 47, rawInt 4, .ref _])) (c := (_, _)) N7 (by k_mem) (by k_mem) (by intro q hq; repeat (first | exact (show ∀ p ∈ W, p ∈ _ from by assumption) q hq | refine List.Mem.tail _ ?_))) ⟨_, _, _, _, _, congrArg (fun z => Value.int z _) (seg_all rfl), rfl, by assumption, by assumption, ?_, ?_⟩
      · exact off_of (by assumption) (by assumption)
      · assumption
  · w_strict k_steps
    (with_reducible rename News _ _ _ _ => N7)
    (try simp only [Array.empty_append] at N7)
    (with_reducible rename ns = [] => hnil)
    refine hret _ _ _ _ (by k_asm) (drop2 (b := (37, tabObj #[rawInt 47, rawInt 4, .ref _])) (c := (_, _)) N7 (by k_mem) (by k_mem) (by intro q hq; repeat (first | exact (show ∀ p ∈ W, p ∈ _ from by assumption) q hq | refine List.Mem.tail _ ?_))) ⟨_, _, _, _, _, congrArg (fun z => Value.int z _) (by rw [hnil]; rfl), rfl, by assumption, by assumption, ?_, ?_⟩
    · exact off_of (by assumption) (by assumption)
    · assumption
theorem d2i_miss (w : World) (W : List (Addr × Obj)) (ql : Addr) (vs : List Value) (ns : List Int) (k : Nat) (n : Int) (tn : Tok) (hn : 0 < n) (hn2 : n ≤ 64) (hql : (ql, listOf vs.toArray k) ∈ W) (hi : IntsAre vs ns) (hlen : ns.length ≤ 128) (hnn : ∀ d ∈ ns, 0 ≤ d) (hval : val n.toNat ns < 2 ^ 60) (hW37 : ∀ p ∈ W, p.1 ≠ 37) :
    Ct w 42 [.ref ql, .int n tn] 200 ((37, tabObj #[]) :: W) (RetD #[] W (val n.toNat ns)) := d2i_all w W ql vs ns k n tn hn hn2 hql hi hlen hnn hval hW37 _ (.inl rfl)
theorem d2i_hit (w : World) (W : List (Addr × Obj)) (ql : Addr) (vs : List Value) (ns : List Int) (k : Nat) (n : Int) (tn : Tok) (hn : 0 < n) (hn2 : n ≤ 64) (hql : (ql, listOf vs.toArray k) ∈ W) (hi : IntsAre vs ns) (hlen : ns.length ≤ 128) (hnn : ∀ d ∈ ns, 0 ≤ d) (hval : val n.toNat ns < 2 ^ 60) (hW37 : ∀ p ∈ W, p.1 ≠ 37) (c : Addr) (oc : Obj) (cvs : Array Value) (ct : Tok) (hcm : (c, oc) ∈ W) (hcd : oc.data = .fields cvs) (hcv : cvs[1]? = some (.str (Str.ofString "_digits2int.<locals>.inner") ct)) :
    Ct w 42 [.ref ql, .int n tn] 200 ((37, tabObj #[rawInt 47, rawInt 4, .ref c]) :: W) (RetD #[rawInt 47, rawInt 4, .ref c] W (val n.toNat ns)) := d2i_all w W ql vs ns k n tn hn hn2 hql hi hlen hnn hval hW37 _ (.inr ⟨c, oc, cvs, ct, rfl, hcm, hcd, hcv⟩)
end Mine
end SecbD2
section SecbDM
theorem Mine.offbDM : True := by
  w_top off
  k_with_none
  trivial
open PySem PySem.W PyProof.Rows PySem.Spec PySem.Calls
set_option maxRecDepth 100000
set_option maxHeartbeats 8000000
namespace Mine
theorem rulesDM : True := by
  k_with_none
  k_with "call ref" => refine stop ?_
  k_with "RevRest" => refine stop ?_
  k_with "UnrEnd" => refine stop ?_
  k_with "call builtin:list.reverse" => refine stop ?_
  k_with "pyIter ref" => refine stop ?_
  k_with "eval Name" => (k_here; k_dflt (refine' ld (by k_asm) (by first | exact rfl | assumption) ?_; k_whole))
  trivial
inductive RetQ (ps30 ps37 : Array Value) (W : List (Addr × Obj)) (q r : Int) (v : Value) (news' : List (Addr × Obj)) : Prop
  | mk (t : Addr) (t1 t2 : Tok) (c : Addr) (oc : Obj) (cvs : Array Value) (ct : Tok) (c2 : Addr) (oc2 : Obj) (cvs2 : Array Value) (ct2 : Tok) (e1 : v = .ref t) (e2 : news' = (t, pairObj q r t1 t2) :: (30, tabObj #[rawInt 32, rawInt 4, .ref c]) :: (37, tabObj #[rawInt 47, rawInt 4, .ref c2]) :: (c, oc) :: (c2, oc2) :: W)
    (h1 : oc.data = .fields cvs) (h2 : cvs[1]? = some (.str (Str.ofString "_int2digits.<locals>.inner") ct)) (h3 : oc2.data = .fields cvs2) (h4 : cvs2[1]? = some (.str (Str.ofString "_digits2int.<locals>.inner") ct2)) (h5 : ∀ p ∈ W, p.1 < t) (h6 : 37 < t) (h7 : c < t) (h8 : c2 < t)
    (h9 : ps30 = #[rawInt 32, rawInt 4, .ref c] ∨ ∀ p ∈ W, p.1 < c) (h10 : ps37 = #[rawInt 47, rawInt 4, .ref c2] ∨ ∀ p ∈ W, p.1 < c2)
def T30 (ps : Array Value) (W : List (Addr × Obj)) : Prop := ps = #[] ∨ ∃ c oc cvs ct, ps = #[rawInt 32, rawInt 4, .ref c] ∧ (c, oc) ∈ W ∧ oc.data = .fields cvs ∧ cvs[1]? = some (.str (Str.ofString "_int2digits.<locals>.inner") ct)
def T37 (ps : Array Value) (W : List (Addr × Obj)) : Prop := ps = #[] ∨ ∃ c oc cvs ct, ps = #[rawInt 47, rawInt 4, .ref c] ∧ (c, oc) ∈ W ∧ oc.data = .fields cvs ∧ cvs[1]? = some (.str (Str.ofString "_digits2int.<locals>.inner") ct)
theorem int2 (w : World) (W : List (Addr × Obj)) (ps : Array Value) (x n : Int) (tx tn : Tok) (hx : 0 ≤ x) (hx2 : x < 2 ^ 60) (hn : 0 < n) (hn2 : n ≤ 64) (hW30 : ∀ p ∈ W, p.1 ≠ 30) (ht : T30 ps W) :
    Ct w 35 [.int x tx, .int n tn] 200 ((30, tabObj ps) :: W) (Ret2 ps W x n) := by
  rcases ht with rfl | ⟨c, oc, cvs, ct, rfl, h1, h2, h3⟩
  · exact int2_miss w W x n tx tn hx hx2 hn hn2 hW30
  · exact int2_hit w W x n tx tn hx hx2 hn hn2 hW30 c oc cvs ct h1 h2 h3
theorem d2i (w : World) (W : List (Addr × Obj)) (ps : Array Value) (ql : Addr) (vs : List Value) (ns : List Int) (k : Nat) (n : Int) (tn : Tok) (hn : 0 < n) (hn2 : n ≤ 64) (hql : (ql, listOf vs.toArray k) ∈ W) (hi : IntsAre vs ns) (hlen : ns.length ≤ 128) (hnn : ∀ d ∈ ns, 0 ≤ d) (hval : val n.toNat ns < 2 ^ 60) (hW37 : ∀ p ∈ W, p.1 ≠ 37) (ht : T37 ps W) :
    Ct w 42 [.ref ql, .int n tn] 200 ((37, tabObj ps) :: W) (RetD ps W (val n.toNat ns)) := by
  rcases ht with rfl | ⟨c, oc, cvs, ct, rfl, h1, h2, h3⟩
  · exact d2i_miss w W ql vs ns k n tn hn hn2 hql hi hlen hnn hval hW37
  · exact d2i_hit w W ql vs ns k n tn hn hn2 hql hi hlen hnn hval hW37 c oc cvs ct h1 h2 h3
inductive DInv (n : Nat) (y : Int) (ds : List Int) (ql : Addr) (Wl : List (Addr × Obj)) (vb vn : Value) (rest : List Value) (m : Str → Option Value) (news : List (Addr × Obj)) : Prop
  | mk (restd done qs : List Int) (qvs : List Value) (k : Nat) (r : Int) (tr : Tok) (h1 : IntsAre rest restd) (h2 : IntsAre qvs qs) (h3 : news = (ql, listOf qvs.toArray k) :: Wl) (h4 : m (Str.ofString "b") = some vb) (h5 : m (Str.ofString "n") = some vn) (h6 : m (Str.ofString "r") = some (.int r tr)) (h7 : m (Str.ofString "q_digits") = some (.ref ql))
    (h8 : done ++ restd = ds.reverse) (h9 : 0 ≤ r) (h10 : r < y) (h11 : hor n done = y * hor n qs + r) (h12 : ∀ q ∈ qs, 0 ≤ q) (h13 : qs.length = done.length)
theorem t30_mono {ps : Array Value} {W W' : List (Addr × Obj)} (h : T30 ps W) (hs : ∀ p ∈ W, p ∈ W') : T30 ps W' := by
  rcases h with h | ⟨c, oc, cvs, ct, e, h1, h2⟩
  · exact Or.inl h
  · exact Or.inr ⟨c, oc, cvs, ct, e, hs _ h1, h2⟩
theorem t37_mono {ps : Array Value} {W W' : List (Addr × Obj)} (h : T37 ps W) (hs : ∀ p ∈ W, p ∈ W') : T37 ps W' := by
  rcases h with h | ⟨c, oc, cvs, ct, e, h1, h2⟩
  · exact Or.inl h
  · exact Or.inr ⟨c, oc, cvs, ct, e, hs _ h1, h2⟩
theorem intBits_le_20 {y : Int} (h : 0 < y) (h2 : y < 2 ^ 20) : Builtin.Int.intBits y ≤ 20 := PySem.intBits_le_iff.mpr (by omega)
theorem dmp (w : World) (W : List (Addr × Obj)) (ps30 ps37 : Array Value) (x y : Int) (tx ty : Tok) (hx : 0 ≤ x) (hx2 : x < 2 ^ 40) (hy : 0 < y) (hy2 : y < 2 ^ 20) (h30 : T30 ps30 W) (h37 : T37 ps37 W) (hW30 : ∀ p ∈ W, p.1 ≠ 30) (hW37 : ∀ p ∈ W, p.1 ≠ 37) :
    Ct w 49 [.int x tx, .int y ty] 300 ((30, tabObj ps30) :: (37, tabObj ps37) :: W) (RetQ ps30 ps37 W (Int.fdiv x y) (Int.fmod x y)) := by
  have hb : Builtin.Int.intBits y ≤ 20 := intBits_le_20 hy hy2
  have hbp := intBits_pos (x := y) (by omega) (by omega)
  unfold Ct; k_fill
  intro p loose mean mg mb dp un gd cn cs a ccd cl outer A₀ base h₀ L m s Q E B C1 C2 C3 F X N T hk hd hu hret
  refine wpAny_call ?_
  k_dflt ktr_enter
  w_strict k_steps
  unfold Stop
  k_dflt (refine' int2 _ ((37, tabObj ps37) :: W) _ _ _ _ _ ?p1 ?p2 ?p3 ?p4 ?p5 ?p6 _ _ _ _ _ _ _ _ _ _ _ _ _ _ _ _ _ _ _ _ _ _ ?k1 ?c1 ?c2 ?c3 ?k2 ?k3 ?k4 ?k5 ?kK ?kd ?ku ?_; (case k1 => k_asm); (case k2 => k_asm); (case k3 => k_asm); (case k4 => k_asm); (case k5 => k_asm); (case kK => first | exact rfl | assumption))
  (case p1 => omega)
  (case p2 => omega)
  (case p3 => omega)
  (case p4 => omega)
  (case p5 => exact List.forall_mem_cons.mpr ⟨by show (37 : Nat) ≠ 30; decide, hW30⟩)
  (case p6 => exact t30_mono h30 (fun q hq => List.Mem.tail _ hq))
  (case c1 => assumption)
  (case c2 => assumption)
  (case c3 => assumption)
  (case kd => dsimp only [ktrTop]; omega)
  (case ku => dsimp only [ktrTop]; omega)
  rintro r9 news9 h9 tk9 F9 N9 ⟨dl, vs, ds, c, oc, cvs, ct, rfl, rfl, hI9, hv9, hd9, hl9, hc1, hc2, ho1, ho2, ho3, ho4, ho5⟩
  have hWd : AllLt dl W := allLt_of fun p hp => ho1 p (.tail _ hp)
  have h37d : (37 : Nat) < dl := ltN (ho1 (37, tabObj ps37) (.head _))
  dsimp only
  w_strict k_steps
  unfold Stop
  ((k_dflt (refine' iter_revUnr ?kh ?kF ?kN ?kO ?km ?kc ?kd ?_; (case kh => rfl); (case kF => k_asm); (case kN => k_asm); (case km => k_mem); (case kc => rfl); (case kd => rfl); (case kO => exact offI_of (by k_all)))))
  w_strict k_steps
  refine rev_start (DInv (Builtin.Int.intBits y) y ds _ _ _ _) ⟨ds.reverse, [], [], [], 0, 0, _, ints_reverse hI9, .nil, rfl, rfl, rfl, rfl, rfl, rfl, Int.le_refl _, hy, by simp [hor, val], (fun _ h => nomatch h), rfl⟩ ?step ?fin
  case step =>
    rintro v r m1 news1 it h1 tk1 ⟨restd, done, qs, qvs, k1, rr, tr, hIr, hIq, rfl, hmb, hmn, hmr, hmq, hdone, hr0, hry, hH, hqn, hql⟩ hit F1 N1
    cases hIr with
    | @cons d td _ _ hIr =>
    have hdm : d ∈ ds := List.mem_reverse.mp (hdone ▸ List.mem_append_right _ (.head _))
    have hdb := hd9 d hdm
    have hlen := congrArg List.length hdone
    simp only [List.length_append, List.length_cons, List.length_reverse] at hlen
    have hlq := hIq.length
    have hrb := shl_bd hr0 (by omega : rr < 2 ^ 20) hb
    w_strict k_steps
    unfold Stop
    k_dflt (refine' div2n1n _ _ _ _ _ _ _ _ ?p1 ?p2 ?p3 ?p4 ?p5 _ _ _ _ _ _ _ _ _ _ _ _ _ _ _ _ _ _ _ _ _ _ ?k1 ?c1 ?c2 ?c3 ?k2 ?k3 ?k4 ?k5 ?kK ?kd ?ku ?_; (case k1 => k_asm); (case k2 => k_asm); (case k3 => k_asm); (case k4 => k_asm); (case k5 => k_asm); (case kK => first | exact rfl | assumption))
    (case p1 => omega)
    (case p2 => omega)
    (case p3 => omega)
    (case p4 => omega)
    (case p5 => omega)
    (case c1 => assumption)
    (case c2 => assumption)
    (case c3 => assumption)
    (case kd => dsimp only [ktrTop]; omega)
    (case ku => dsimp only [ktrTop]; omega)
    rintro r9 news9 h9 tk9 F9 N9 ⟨t9, t91, t92, rfl, rfl, ho9⟩
    dsimp only
    k_lt ho9
    w_strict k_steps
    (with_reducible rename News _ _ _ _ => N7)
    (try simp only [List.push_toArray] at N7)
    unfold Stop
    have hstep := hor_step (d := d) hy hH
    (with_reducible rename Fr _ _ _ _ => F7)
    refine UnrEnd.intro F7 N7 _ (fun q hq => List.Mem.tail _ hq) (by k_all) ⟨.tail _ (.head _), ⟨_, done ++ [d], qs ++ [_], qvs ++ [_], _, _, _, hIr, ints_append hIq (.cons _ _ .nil), rfl, hmb, hmn, rfl, hmq, by simpa using hdone, Int.fmod_nonneg_of_pos _ hy, Int.fmod_lt_of_pos _ hy, hstep, ?_, by simp [hql]⟩⟩
    intro q hq
    rcases List.mem_append.mp hq with hq | hq
    · exact hqn q hq
    · have := List.mem_singleton.mp hq
      subst this
      exact Int.fdiv_nonneg (by (try simp only [Int.toNat_natCast] at hrb ⊢); omega) (by omega)
  case fin =>
    rintro m1 news1 h1 tk1 ⟨restd, done, qs, qvs, k1, rr, tr, hIr, hIq, rfl, hmb, hmn, hmr, hmq, hdone, hr0, hry, hH, hqn, hql⟩ F1 N1
    cases hIr
    rw [List.append_nil] at hdone
    have hlen := congrArg List.length hdone
    rw [List.length_reverse] at hlen
    have hlq := hIq.length
    subst hdone
    rw [Int.toNat_natCast] at hv9
    obtain ⟨hfin, hfin2⟩ := hor_fin hy hr0 hry hv9 hH
    have hfb := fdiv_le hy hx
    subst hfin2
    have hc37 : c ≠ 37 := by
      rcases ho5 with e | e
      · rcases h30 with e0 | ⟨c0, oc0, _, _, e0, hm0, _⟩
        · rw [e0] at e; simp at e
        · rw [e0] at e; simp [rawInt] at e; subst e; exact hW37 _ hm0
      · have := ltN (e (37, _) (.head _)); refine neN ?_; (try dsimp only at this); omega
    have hc37' := neN hc37
    w_strict k_steps
    unfold Stop
    ((k_dflt (refine' revInts ?kF ?kN ?kz ?kU ?_; (case kF => k_asm); (case kN => k_asm); (case kU => k_upd); (case kz => omega))); intro h' F' N')
    w_strict k_steps
    (with_reducible rename News _ _ _ _ => N7)
    have N6 := news_pull4 N7
    unfold Stop
    k_dflt (refine' d2i _ _ _ _ _ _ _ _ _ ?p1 ?p2 ?p3 ?p4 ?p5 ?p6 ?p7 ?p8 ?p9 _ _ _ _ _ _ _ _ _ _ _ _ _ _ _ _ _ _ _ _ _ _ ?k1 ?c1 ?c2 ?c3 ?k2 ?k3 ?k4 ?k5 ?kK ?kd ?ku ?_; (case k1 => k_asm); (case k2 => k_asm); (case k3 => k_asm); (case k4 => k_asm); (case k5 => k_asm); (case kK => first | exact rfl | assumption))
    (case p1 => omega)
    (case p2 => omega)
    (case p3 => exact .head _)
    (case p4 => exact ints_reverse hIq)
    (case p5 => rw [List.length_reverse]; omega)
    (case p6 => exact fun q hq => hqn q (List.mem_reverse.mp hq))
    (case p7 => rw [Int.toNat_natCast]; omega)
    (case p8 => repeat' (first | exact hW37 | (refine List.forall_mem_cons.mpr ⟨?_, ?_⟩) | (refine neN ?_; (try dsimp only); omega)))
    (case p9 => exact t37_mono h37 (fun q hq => .tail _ (.tail _ (.tail _ (.tail _ hq)))))
    (case c1 => assumption)
    (case c2 => assumption)
    (case c3 => assumption)
    (case kd => dsimp only [ktrTop]; omega)
    (case ku => dsimp only [ktrTop]; omega)
    rintro r9 news9 h9 tk9 F9 N9 ⟨t9, c2, oc2, cvs2, ct2, rfl, rfl, hd1, hd2, hd3, hd4⟩
    rw [Int.toNat_natCast, hfin]
    dsimp only
    w_strict k_steps
    (with_reducible rename News _ _ _ _ => N5)
    refine hret _ _ _ _ (by k_asm) (drop5 (a := (_, pairObj _ _ _ _)) (b := (30, _)) (c := (37, _)) (d := (c, oc)) (e := (c2, oc2)) N5 (by k_mem) (by k_mem) (by k_mem) (by k_mem) (by k_mem) (by intro q hq; repeat (first | exact hq | refine List.Mem.tail _ ?_))) ⟨_, _, _, _, _, _, _, _, _, _, _, rfl, rfl, hc1, hc2, hd1, hd2, ?_, ?_, ?_, ?_, ?_, ?_⟩
    · exact fun p hp => Nat.lt_of_lt_of_le (allLt_get hWd p hp) (by omega)
    · refine ltN ?_; (try dsimp only); omega
    · refine ltN ?_; (try dsimp only); omega
    · refine ltN ?_; (try dsimp only); omega
    · exact ho5.imp id fun h p hp => h p (.tail _ hp)
    · exact hd4.imp id fun h p hp => h p (.tail _ (.tail _ (.tail _ (.tail _ hp))))
end Mine
end SecbDM
section SecbID
theorem Mine.offbID : True := by
  w_top off
  k_with_none
  trivial
open PySem PySem.W PyProof.Rows PySem.Spec PySem.Calls
set_option maxRecDepth 100000
set_option maxHeartbeats 8000000
namespace Mine
theorem rulesID : True := by
  k_with_none
  k_with "call ref" => refine stop ?_
  trivial
theorem idm_pos (w : World) (W : List (Addr × Obj)) (ps30 ps37 : Array Value) (x y : Int) (tx ty : Tok) (hx : 0 ≤ x) (hx2 : x < 2 ^ 40) (hy : 0 < y) (hy2 : y < 2 ^ 20) (h30 : T30 ps30 W) (h37 : T37 ps37 W) (hW30 : ∀ p ∈ W, p.1 ≠ 30) (hW37 : ∀ p ∈ W, p.1 ≠ 37) :
    Ct w 56 [.int x tx, .int y ty] 310 ((30, tabObj ps30) :: (37, tabObj ps37) :: W) (RetQ ps30 ps37 W (Int.fdiv x y) (Int.fmod x y)) := by
  unfold Ct; k_fill
  intro p loose mean mg mb dp un gd cn cs a ccd cl outer A₀ base h₀ L m s Q E B C1 C2 C3 F X N T hk hd hu hret
  refine wpAny_call ?_
  k_dflt ktr_enter
  w_strict k_steps
  all_goals (try (exfalso; omega))
  unfold Stop
  k_dflt (refine' dmp _ _ _ _ _ _ _ _ ?p1 ?p2 ?p3 ?p4 ?p5 ?p6 ?p7 ?p8 _ _ _ _ _ _ _ _ _ _ _ _ _ _ _ _ _ _ _ _ _ _ ?k1 ?c1 ?c2 ?c3 ?k2 ?k3 ?k4 ?k5 ?kK ?kd ?ku ?_; (case k1 => k_asm); (case k2 => k_asm); (case k3 => k_asm); (case k4 => k_asm); (case k5 => k_asm); (case kK => first | exact rfl | assumption))
  (case p1 => first | assumption | omega)
  (case p2 => first | assumption | omega)
  (case p3 => first | assumption | omega)
  (case p4 => first | assumption | omega)
  (case p5 => first | assumption | omega)
  (case p6 => first | assumption | omega)
  (case p7 => first | assumption | omega)
  (case p8 => first | assumption | omega)
  (case c1 => assumption)
  (case c2 => assumption)
  (case c3 => assumption)
  (case kd => dsimp only [ktrTop]; omega)
  (case ku => dsimp only [ktrTop]; omega)
  rintro r9 news9 h9 tk9 F9 N9 hR
  dsimp only
  w_strict k_steps
  exact hret _ _ _ _ (by k_asm) (by k_asm) hR
end Mine
end SecbID
section SecbIN
theorem Mine.offbIN : True := by
  w_top off
  k_with_none
  trivial
open PySem PySem.W PyProof.Rows PySem.Spec PySem.Calls
set_option maxRecDepth 100000
set_option maxHeartbeats 8000000
namespace Mine
theorem rulesIN : True := by
  k_with_none
  k_with "call ref" => refine stop ?_
  trivial
theorem idm (w : World) (W : List (Addr × Obj)) (ps30 ps37 : Array Value) (x y : Int) (tx ty : Tok) (hx : -(2 ^ 39) < x) (hx2 : x < 2 ^ 39) (hy : 0 < y) (hy2 : y < 2 ^ 20) (h30 : T30 ps30 W) (h37 : T37 ps37 W) (hW30 : ∀ p ∈ W, p.1 ≠ 30) (hW37 : ∀ p ∈ W, p.1 ≠ 37) :
    Ct w 56 [.int x tx, .int y ty] 320 ((30, tabObj ps30) :: (37, tabObj ps37) :: W) (RetQ ps30 ps37 W (Int.fdiv x y) (Int.fmod x y)) := by
  by_cases hneg : 0 ≤ x
  · exact fun p loose mean mg mb dp un gd cn cs a ccd cl outer A₀ base h₀ L m s Q E B C1 C2 C3 F X N T hk hd hu hret => idm_pos w W ps30 ps37 x y tx ty hneg (by omega) hy hy2 h30 h37 hW30 hW37 p loose mean mg mb dp un gd cn cs a ccd cl outer A₀ base h₀ L m s Q E B C1 C2 C3 F X N T hk (by omega) (by omega) hret
  unfold Ct; k_fill
  intro p loose mean mg mb dp un gd cn cs a ccd cl outer A₀ base h₀ L m s Q E B C1 C2 C3 F X N T hk hd hu hret
  refine wpAny_call ?_
  k_dflt ktr_enter
  w_strict k_steps
  all_goals (try (exfalso; omega))
  unfold Stop
  k_dflt (refine' idm_pos _ _ _ _ _ _ _ _ ?p1 ?p2 ?p3 ?p4 ?p5 ?p6 ?p7 ?p8 _ _ _ _ _ _ _ _ _ _ _ _ _ _ _ _ _ _ _ _ _ _ ?k1 ?c1 ?c2 ?c3 ?k2 ?k3 ?k4 ?k5 ?kK ?kd ?ku ?_; (case k1 => k_asm); (case k2 => k_asm); (case k3 => k_asm); (case k4 => k_asm); (case k5 => k_asm); (case kK => first | exact rfl | assumption))
  (case p1 => first | assumption | (simp only [Builtin.bitNot]; omega) | omega)
  (case p2 => first | assumption | (simp only [Builtin.bitNot]; omega) | omega)
  (case p3 => first | assumption | (simp only [Builtin.bitNot]; omega) | omega)
  (case p4 => first | assumption | (simp only [Builtin.bitNot]; omega) | omega)
  (case p5 => first | assumption | (simp only [Builtin.bitNot]; omega) | omega)
  (case p6 => first | assumption | (simp only [Builtin.bitNot]; omega) | omega)
  (case p7 => first | assumption | (simp only [Builtin.bitNot]; omega) | omega)
  (case p8 => first | assumption | (simp only [Builtin.bitNot]; omega) | omega)
  (case c1 => assumption)
  (case c2 => assumption)
  (case c3 => assumption)
  (case kd => dsimp only [ktrTop]; omega)
  (case ku => dsimp only [ktrTop]; omega)
  rintro r9 news9 h9 tk9 F9 N9 ⟨t, t1, t2, c, oc, cvs, ct, c2, oc2, cvs2, ct2, rfl, rfl, hc1, hc2, hd1, hd2, ho1, ho2, ho3, ho4, ho5, ho6⟩
  have hWd : AllLt t W := allLt_of ho1
  have e1 := neg_div x y hy
  dsimp only
  w_strict k_steps
  (with_reducible rename News _ _ _ _ => N5)
  rw [e1.1, e1.2] at N5
  refine hret _ _ _ _ (by k_asm) (drop5 (a := (_, pairObj _ _ _ _)) (b := (30, _)) (c := (37, _)) (d := (c, oc)) (e := (c2, oc2)) N5 (by k_mem) (by k_mem) (by k_mem) (by k_mem) (by k_mem) (by intro q hq; repeat (first | exact hq | refine List.Mem.tail _ ?_))) ⟨_, _, _, _, _, _, _, _, _, _, _, rfl, rfl, hc1, hc2, hd1, hd2, ?_, ?_, ?_, ?_, ho5, ho6⟩
  · exact fun p hp => Nat.lt_of_lt_of_le (allLt_get hWd p hp) (by omega)
  · refine ltN ?_; (try dsimp only); omega
  · refine ltN ?_; (try dsimp only); omega
  · refine ltN ?_; (try dsimp only); omega
end Mine
end SecbIN
section SecbSz
theorem Mine.offbSz : True := by
  w_top off
  k_with_none
  trivial
open PySem PySem.W PyProof.Rows PySem.Spec PySem.Calls
set_option maxRecDepth 100000
set_option maxHeartbeats 8000000
namespace Mine
section
variable {prog : Program} {w : World} {A A₀ : Around} {E : Value → Shared → Prop} {s : Shared} {h₀ base : Heap} {L l a b D : Addr} {m : Str → Option Value} {news : List (Addr × Obj)} {n : Nat} {outer : List Env} {env : Env}
theorem listEndZ {it l : Addr} {i : Nat} {items : Array Value} {Q : Option Value → Shared → Prop} (hh : A.handled = none)
    (hit : s.heap.IsListIter it l i) (hl : s.heap.IsList l items) (hx : items[i]? = none)
    (hQ : ∀ h', Heap.ExtBut it s.heap h' → h'.objs.size = s.heap.objs.size + 2 → Q none { s with heap := h' }) : wpAny (model prog w) A (pyNext (.ref it)) Q E s := by
  obtain ⟨o, ho, _, hd⟩ := id hit
  obtain ⟨ol, hol, _, nl, hdl⟩ := hl
  unfold pyNext
  refine wpAny_bind (wpAny_attempt (wpAny_callSpecial?_slot (name := Str.ofString "__next__") hit.typeIs slot_listiter_next
    (wpAny_call_entry slot_listiter_next hit.typeIs entry_listiter_next ?_ (args_listiter_next _))))
  show wpAny _ _ (field (.ref it) 0 >>= _) _ _ s
  refine wpAny_bind (wpAny_field ho hd (x := .ref l) rfl ?_)
  show wpAny _ _ (if (Value.ref l == Value.none) = true then _ else _) _ _ s
  rw [if_neg (show ¬ ((Value.ref l == Value.none) = true) from Bool.false_ne_true)]
  show wpAny _ _ (field (.ref it) 1 >>= _) _ _ s
  refine wpAny_bind (wpAny_field ho hd (x := .int i 0) rfl ?_)
  show wpAny _ _ (seqItems? (.ref l) >>= _) _ _ s
  refine wpAny_bind (wpAny_seqItems hol hdl ?_)
  simp only [Int.toNat_natCast, hx]
  refine wpAny_bind (wpAny_rule (wpAny_bind (wpAny_setField ho hd (by simp) ?_)))
  show wpAny _ _ (newExc (.type "StopIteration") [] >>= _) _ _ _
  refine wpAny_bind ?_
  simp only [newExc, newTuple]
  refine wpAny_bind (wpAny_newObj_type ?_ (by size_fits))
  refine wpAny_bind (m := firstArgMember _ _) (wpAny_of_eq (a := Value.none) (by first | rfl | (simp only [firstArgMember]; rfl)) ?_)
  refine wpAny_newObj_type ?_ (by size_fits)
  simp only [raiseNew]
  refine wpAny_bind (wpAny_handled ?_)
  rw [show A.in1.handled = none from hh]
  refine wpAny_bind (wpAny_pure (wpAny_throw ?_))
  refine wpAny_bind (wpAny_isInstance (T := "StopIteration") (b := true) ⟨_, Heap.get?_push_size _ rfl, rfl⟩ isSubtype_stop ?_)
  refine wpAny_pure (hQ _ (((Heap.SameBut.update ..).extBut.push _).push _) ?_)
  rw [Heap.size_push, Heap.size_push, (Heap.SameBut.update (a := it) ..).1]
theorem newListZ {vs : List Value} {Q : Value → Shared → Prop} (F : Fr h₀ L s.heap m) (N : News h₀ L s.heap news) (Z : s.heap.objs.size = n)
    (h : ∀ l h', Fr h₀ L h' m → News h₀ L h' ((l, listOf vs.toArray 0) :: news) → (∀ p ∈ news, p.1 < l) → h'.objs.size = n + 1 → Q (.ref l) { s with heap := h' }) (hsz : vs.length ≤ sizeLine := by size_fits) :
    wpAny (model prog w) A (newList vs) Q E s :=
  wpAny_newObj_type (h _ _ (F.push _) (News.push F N _) (fun p hp => Heap.lt_size (N p hp).1) (by rw [Heap.size_push, Z])) (by show vs.toArray.size ≤ sizeLine; rw [List.size_toArray]; exact hsz)
theorem storeZ {cn : Str} {cs : Scope} {ccd : Value} {cl : List (Str × Addr)} {x : Str} {v : Value} {Q : Unit → Shared → Prop} (F : Fr h₀ L s.heap m) (N : News h₀ L s.heap news) (Z : s.heap.objs.size = n)
    (h : ∀ h', Fr h₀ L h' (fun y => if y = x then some v else m y) → News h₀ L h' news → h'.objs.size = n → Q () { s with heap := h', toks := s.toks + 1 })
    (hk : cs.kind = .function := by rfl) (hx : (envX cn cs L a ccd cl).kindOf x = some .local := by rfl) : wpAny (model prog w) A (storeName (envX cn cs L a ccd cl) x v) Q E s :=
  wpAny_storeName_local hx F.ns (fun h' hn hs => h h' (F.set hn hs) (N.set hs) (hs.1.trans Z)) (by show (cs.kind == .class || (cs.kind == .module && L != mainGlobals)) = false; rw [hk]; rfl)
theorem sliceZ {value slice : PySem.Expr} {items : Array Value} {vl vu : Value} {lo hi : Option Int} {zs : List Value} {Q : Value → Shared → Prop}
    (F : Fr h₀ L s.heap m) (N : News h₀ L s.heap news) (Z : s.heap.objs.size = n) (hl : s.heap.IsList l items) (pl : IsPart vl lo) (pu : IsPart vu hi) (e : (slicePick items lo hi none).toList = zs)
    (h : ∀ D h', Fr h₀ L h' m → News h₀ L h' ((D, listOf zs.toArray 0) :: news) → (∀ p ∈ news, p.1 < D) → h'.objs.size = n + 2 → Q (.ref D) { s with heap := h' })
    (hs : subscripted slice false (.ref l) (.ref s.heap.objs.size) = operate [.ref s.heap.objs.size, .ref l] (getItem (.ref l) (.ref s.heap.objs.size)))
    (ht : ∀ r, letTemporaryGo value (.ref l) r = pure ()) (hsz : items.size ≤ sizeLine) :
    wpAny (model prog w) A (subscriptTail value slice (.ref l) (.ref s.heap.objs.size)) Q E { s with heap := s.heap.push { cls := .type "slice", data := .fields #[vl, vu, .none] } } := by
  refine subscriptTail_ops (Heap.IsList.typeIs (s := { s with heap := s.heap.push { cls := .type "slice", data := .fields #[vl, vu, .none] } }) (hl.push _)) list_getitem_lookup
    (wpAny_getItem_list_slice (hl.push _) (Heap.IsSliceOf.new ..) pl pu .none (by simp) ?_ hsz) hs ht
  have ez : slicePick items lo hi none = zs.toArray := by rw [← e, Array.toArray_toList]
  have N1 := News.push (F.push { cls := .type "slice", data := .fields #[vl, vu, .none] }) (N.grown fun _ _ e => Heap.get?_push_of_some _ e) { cls := .type "list", data := .seq (slicePick items lo hi none) }
  rw [ez] at N1 ⊢
  exact h _ _ ((F.push _).push _) N1 (fun p hp => by rw [Heap.size_push]; exact Nat.lt_succ_of_lt (Heap.lt_size (N p hp).1)) (by rw [Heap.size_push, Heap.size_push, Z])
theorem addZ {vs ws zs : List Value} {its its2 : Array Value} {Q : Value → Shared → Prop} (F : Fr h₀ L s.heap m) (N : News h₀ L s.heap news) (Z : s.heap.objs.size = n) (hl : s.heap.IsList l its) (hb : s.heap.IsList b its2) (ez : its.toList ++ its2.toList = zs)
    (h : ∀ D h', Fr h₀ L h' m → News h₀ L h' ((D, listOf zs.toArray 0) :: news) → (∀ p ∈ news, p.1 < D) → h'.objs.size = n + 1 → Q (.ref D) { s with heap := h' })
    (hsz : its.toList.length + its2.toList.length ≤ sizeLine) : wpAny (model prog w) A (binaryOp .Add (.ref l) (.ref b)) Q E s := by
  obtain ⟨⟨cls, dd, data, sl⟩, ho, hc, n1, hd⟩ := id hl
  obtain ⟨⟨cls2, dd2, data2, sl2⟩, ho2, hc2, n2, hd2⟩ := id hb
  simp only at hc hd hc2 hd2
  subst hc hd hc2 hd2
  have e : its ++ its2 = zs.toArray := by rw [← ez]; simp
  refine concat_meets ⟨_, ho, rfl⟩ ⟨_, ho2, rfl⟩ noFill_list_add seq_list_add PySem.F.slot_list_add PySem.F.entry_list_add (PySem.F.args_list_add_2 _ _) (list_addW l b its its2 n1 n2 dd dd2 sl sl2 (by simpa using hsz)) ⟨ho, ho2, ?_⟩
  rw [e]
  exact h _ _ (F.push _) (News.push F N _) (fun p hp => Heap.lt_size (N p hp).1) (by rw [Heap.size_push, Z])
theorem codeDefZ {R : Result → Shared → Prop} {K : Frag} {p : Program} {loose : List Str} {mean : ExcName → Option Value} {mg mb : Str → Option Value} {name qual : Str} {params : Arguments} {body : List Stmt} {scope : Scope} {dV kV doc pm cdv ct oc : Value} {an od : Option Addr} {osl : Array (Option Value)} {f : Addr} {args : Args} {binds : List (Str × Value)}
    (B : Below A₀ base outer h₀) (F : Fr h₀ L s.heap m) (X₀ : K.In h₀) (N : News h₀ L s.heap news) (T : Top p loose mean mg mb h₀) (hA : A.frames = some (env :: outer)) (hf : env.frame = some L) (hke : env.scope.kind = .function)
    (Z : s.heap.objs.size = n)
    (ho : K.lookup f = some ⟨oc, od, .func (fnOf name qual params body scope dV kV doc pm an cdv ct), osl⟩) (hcd : codeIn K cdv qual = true) (hroom : A.depth < recursionLimit)
    (hbind : BindsTo s (fnOf name qual params body scope dV kV doc pm an cdv ct) args binds) (hloc : ∀ y ∈ binds, scope.names.lookup y.1 = some .local)
    (h : ∀ g L' h₁, Fr h₀ L g m → Fr g L' h₁ (fun y => binds.reverse.lookup y) → News g L' h₁ news → Below A base (env :: outer) g → K.In g → Top p loose mean mg mb g → h₁.objs.size = n + 1 →
      wpAny (model prog w) (A.deeper (envOf qual scope L' f cdv)) (execs body (envOf qual scope L' f cdv))
        (fun fl s' => LeaveK h₀ L m g R (match fl with | .ret v => v | _ => .none) s')
        (fun e s' => wpAny (model prog w) (A.deeper (envOf qual scope L' f cdv)) (leaving (envOf qual scope L' f cdv) e) (fun _ s'' => R (.error e) s'') (fun e' s'' => R (.error e') s'') s')
        { s with heap := h₁, toks := s.toks + binds.length })
    (hco : scope.isCoroutine = false) (hgen : scope.isGenerator = false) (hk : scope.kind = .function)
    (hcell : ∀ x ∈ scope.names, x.2 ≠ .cell) : codeAny (model prog w) A (.call (.ref f) args) R s := by
  obtain ⟨FG, BG, st, lv⟩ := groundX (R := R) B F N hA hf hke
  have X := X₀.keeps F.keep
  refine codeAny_call_function hroom (X _ _ ho) rfl hco hgen rfl (codeRec_of X hcd) (hbind _ _ _ _ ?_)
  refine wpAny_newFunctionEnv hcell hloc (fun h₁ hns hsb => ⟨(T.nolimit.keeps F.keep).fresh _ hsb, codeAny_func ?_⟩) hk
  have hk₁ : ∀ b o, s.heap.get? b = some o → h₁.get? b = some o := fun b o e => hsb.extBut b o (Nat.ne_of_lt (Heap.lt_size e)) (Heap.get?_push_of_some _ e)
  exact wpAny_mono (h _ s.heap.objs.size h₁ FG ⟨hns, fun b o e => hk₁ b o (of_hideAll _ e), Nat.le_of_eq (hideAll_size _ _)⟩
    (fun p hp => ⟨hk₁ _ _ (N p hp).1, Nat.ne_of_lt (Heap.lt_size (N p hp).1), hideAll_none _ (List.mem_map_of_mem hp)⟩) BG (X₀.keeps st) (T.keeps st) (by rw [hsb.1, Heap.size_push, Z])) (fun fl s' hl => lv _ _ hl) fun _ _ y => y
theorem pushCells_size : ∀ (names : List (Str × NameKind)) (h : Heap), (pushCells h names).objs.size = h.objs.size + (names.filter fun y => y.2 == .cell).length
  | [], h => rfl
  | (x, k) :: r, h => by
    unfold pushCells
    by_cases hk : (k == .cell) = true
    · rw [if_pos hk, pushCells_size r, Heap.size_push, List.filter_cons, if_pos hk, List.length_cons]; omega
    · rw [if_neg hk, pushCells_size r, List.filter_cons, if_neg hk]
theorem newEnvZ {scope : Scope} {globals : Addr} {x : Str} {v : Value} {qual : Str} {func : Option Addr} {code : Value} {builtins : Addr} {Q : Env → Shared → Prop} {M : Model}
    (hk : scope.kind = .function) (hl : scope.names.lookup x = some .local)
    (hQ : ∀ env, env = newEnv scope s.heap.objs.size globals (cellsFrom (s.heap.objs.size + 1) scope.names []) qual func code none builtins →
      ∀ s', InCallC s env.locals (bindL env.kindOf [(x, v)] fun _ => none) env.cells (bindC env.kindOf [(x, v)] fun _ => none) s' → s'.heap.objs.size = s.heap.objs.size + 1 + (scope.names.filter fun y => y.2 == .cell).length → Q env s') :
    wpAny M A (newFunctionEnv scope globals [] [(x, v)] qual func code none builtins) Q E s := by
  simp only [newFunctionEnv, Option.isSome_none, Bool.false_eq_true, if_false]
  refine wpAny_bind (wpAny_alloc ?_)
  refine wpAny_bind (wpAny_layCells _ (fun name kind cells => by cases hkc : kind == NameKind.cell <;> simp [hkc]) _ _ _ _ ?_)
  have ok := cellsFrom_ok scope.names (s.heap.push { cls := .type "frame", data := .dict #[] }) (s.heap.objs.size + 1) [] ⟨fun _ _ hm => (nomatch hm), List.Pairwise.nil⟩ (by rw [Heap.size_push]; exact Nat.le_refl _)
  rw [Heap.size_push] at ok
  rw [show ({ s with heap := s.heap.push { cls := .type "frame", data := .dict #[] } } : Shared).heap.objs.size = s.heap.objs.size + 1 from Heap.size_push ..]
  have hz := pushCells_size scope.names (s.heap.push { cls := .type "frame", data := .dict #[] })
  rw [Heap.size_push] at hz
  have x0 : InCallC s s.heap.objs.size (fun _ => none) (cellsFrom (s.heap.objs.size + 1) scope.names []) (fun _ => none) { s with heap := pushCells (s.heap.push { cls := .type "frame", data := .dict #[] }) scope.names } :=
    ⟨⟨⟨_, _, rfl⟩, (Heap.Ns.new s.heap (.type "frame")).keeps (pushCells_keeps _ _), fun b o e => pushCells_keeps _ _ b o (Heap.get?_push_of_some _ e), Nat.le_refl _⟩,
      fun n c hc => (ok.empty n c (mem_of_lookup hc)).1, ok.apart, fun n c hm => (ok.empty n c hm).2⟩
  refine wpAny_bind ?_
  rw [List.forIn_cons]
  refine wpAny_bind (wpAny_bind (wpAny_storeName_local (env := newEnv scope s.heap.objs.size globals (cellsFrom (s.heap.objs.size + 1) scope.names []) qual func code none builtins) hl x0.toInCall.ns (fun h' hn' hs' => wpAny_pure ?_) ?_))
  show wpAny _ _ (forIn [] _ _) _ _ _
  rw [List.forIn_nil]
  refine wpAny_pure (wpAny_pure (hQ _ rfl _ ?_ ?_))
  · have e1 : ∀ ev : Env, ev.kindOf x = some .local → bindL ev.kindOf [(x, v)] (fun _ => none) = fun y => if y = x then some v else none := fun ev e => by simp [bindL, e]
    have e2 : ∀ ev : Env, ev.kindOf x = some .local → bindC ev.kindOf [(x, v)] (fun _ => none) = fun _ => none := fun ev e => by simp [bindC, e]
    rw [e1 (newEnv scope s.heap.objs.size globals (cellsFrom (s.heap.objs.size + 1) scope.names []) qual func code none builtins) hl, e2 (newEnv scope s.heap.objs.size globals (cellsFrom (s.heap.objs.size + 1) scope.names []) qual func code none builtins) hl]
    refine ⟨⟨⟨h', _, rfl⟩, hn', fun b o e => ?_, Nat.le_refl _⟩, fun k c hc => ?_, x0.apart, x0.above⟩
    · exact hs'.extBut b o (Nat.ne_of_lt (Heap.lt_size e)) (x0.toInCall.keep b o e)
    · exact (x0.cell k c hc).sameBut hs' (Nat.ne_of_gt (x0.above k c (mem_of_lookup hc)))
  · exact hs'.1.trans hz
  · show (scope.kind == .class || (scope.kind == .module && s.heap.objs.size != globals)) = false
    rw [hk]; rfl
theorem codeDefCZ {R : Result → Shared → Prop} {K : Frag} {p : Program} {loose : List Str} {mean : ExcName → Option Value} {mg mb : Str → Option Value} {name qual : Str} {params : Arguments} {body : List Stmt} {scope : Scope} {dV kV doc pm cdv ct oc : Value} {an od : Option Addr} {osl : Array (Option Value)} {f : Addr} {args : Args} {x : Str} {v : Value} {c : Nat}
    (B : Below A₀ base outer h₀) (F : Fr h₀ L s.heap m) (X₀ : K.In h₀) (N : News h₀ L s.heap news) (T : Top p loose mean mg mb h₀) (hA : A.frames = some (env :: outer)) (hf : env.frame = some L) (hke : env.scope.kind = .function)
    (Z : s.heap.objs.size = n)
    (ho : K.lookup f = some ⟨oc, od, .func (fnOf name qual params body scope dV kV doc pm an cdv ct), osl⟩) (hcd : codeIn K cdv qual = true) (hroom : A.depth < recursionLimit)
    (hbind : BindsTo s (fnOf name qual params body scope dV kV doc pm an cdv ct) args [(x, v)]) (hl : scope.names.lookup x = some .local)
    (hnd : ((cellsFrom 0 scope.names []).map (·.1)).Nodup) (hc : 1 + (scope.names.filter fun y => y.2 == .cell).length = c)
    (h : ∀ g L' h₁ tk cells, Fr h₀ L g m → Fr g L' h₁ (bindL (envOfC qual scope L' f cdv).kindOf [(x, v)] fun _ => none) → News g L' h₁ (cells ++ news) →
      CellsAre (bindC (envOfC qual scope L' f cdv).kindOf [(x, v)] fun _ => none) (cellsFrom (L' + 1) scope.names []) cells → Below A base (env :: outer) g → K.In g → Top p loose mean mg mb g → (∀ p ∈ news, p.1 < L') → h₁.objs.size = n + c →
      wpAny (model prog w) (A.deeper (envOfC qual scope L' f cdv)) (execs body (envOfC qual scope L' f cdv))
        (fun fl s' => LeaveK h₀ L m g R (match fl with | .ret v => v | _ => .none) s')
        (fun e s' => wpAny (model prog w) (A.deeper (envOfC qual scope L' f cdv)) (leaving (envOfC qual scope L' f cdv) e) (fun _ s'' => R (.error e) s'') (fun e' s'' => R (.error e') s'') s')
        { s with heap := h₁, toks := tk })
    (hco : scope.isCoroutine = false) (hgen : scope.isGenerator = false) (hk : scope.kind = .function) : codeAny (model prog w) A (.call (.ref f) args) R s := by
  obtain ⟨FG, BG, st, lv⟩ := groundX (R := R) B F N hA hf hke
  have X := X₀.keeps F.keep
  refine codeAny_call_function hroom (X _ _ ho) rfl hco hgen rfl (codeRec_of X hcd) (hbind _ _ _ _ ?_)
  refine newEnvZ hk hl fun env' he s' y hz => ?_
  subst he
  refine ⟨(T.nolimit.keeps F.keep).keeps y.toInCall.keep, codeAny_func ?_⟩
  obtain ⟨h₁, tk, rfl, _⟩ := y.done
  have hk₁ := y.toInCall.keep
  obtain ⟨cells, NC, Y⟩ := Cl.news (h₀ := s.heap) (Nat.le_refl _) fun n c hm => ⟨y.cell n c (lookup_of_mem_nodup (cellsFrom_names scope.names 0 (s.heap.objs.size + 1) [] [] rfl ▸ hnd) hm), y.above n c hm⟩
  refine wpAny_mono (h _ s.heap.objs.size h₁ tk cells FG ⟨y.toInCall.ns, fun b o e => hk₁ b o (of_hideAll _ e), Nat.le_of_eq (hideAll_size _ _)⟩ (fun p hp => ?_) Y BG (X₀.keeps st) (T.keeps st) (fun p hp => Heap.lt_size (N p hp).1) (by rw [← hc, ← Z, ← Nat.add_assoc]; exact hz)) (fun fl s' hl => lv _ _ hl) fun _ _ y => y
  rcases List.mem_append.mp hp with hp | hp
  · refine ⟨(NC p hp).1, (NC p hp).2.1, ?_⟩
    cases q : (hideAll s.heap (news.map (·.1))).get? p.1 with
    | none => rfl
    | some o => have := of_hideAll _ q; rw [(NC p hp).2.2] at this; cases this
  · exact ⟨hk₁ _ _ (N p hp).1, Nat.ne_of_lt (Heap.lt_size (N p hp).1), hideAll_none _ (List.mem_map_of_mem hp)⟩
end
end Mine
end SecbSz
section SecbSc
theorem Mine.offbSc : True := by
  w_top off
  k_with_none
  trivial
open PySem PySem.W PyProof.Rows PySem.Spec PySem.Calls PyProof.Rows.LCg
set_option maxRecDepth 100000
set_option maxHeartbeats 8000000
namespace Mine
structure WZ (prog : Program) (w : World) (A : Around) (I : Addr) (fp : List Addr) (n : Nat) (P : Nat → Value → Prop) (St : Nat → Heap → Prop) : Prop where
  own : I ∈ fp
  frame : ∀ i (h h' : Heap), St i h → (∀ b ∈ fp, ∀ o, h.get? b = some o → h'.get? b = some o) → St i h'
  item : ∀ i (s : Shared) (Q : Option Value → Shared → Prop) (E : Value → Shared → Prop), i < n → St i s.heap →
    (∀ v h' tk, P i v → St (i + 1) h' → h'.objs.size = s.heap.objs.size → Heap.ExtBut I s.heap h' → Q (some v) { s with heap := h', toks := tk }) → wpAny (model prog w) A (pyNext (.ref I)) Q E s
  done : ∀ (s : Shared) (Q : Option Value → Shared → Prop) (E : Value → Shared → Prop), St n s.heap →
    (∀ h', Heap.ExtBut I s.heap h' → h'.objs.size = s.heap.objs.size + 2 → Q none { s with heap := h' }) → wpAny (model prog w) A (pyNext (.ref I)) Q E s
  self : ∀ i (s : Shared) (Q : Value → Shared → Prop) (E : Value → Shared → Prop), St i s.heap → Q (.ref I) s → wpAny (model prog w) A (pyIter (.ref I)) Q E s
theorem WZ.list {prog : Program} {w : World} {A : Around} (hh : A.handled = none) (I ax : Addr) (hne : ax ≠ I) (items : Array Value) :
    WZ prog w A I [I, ax] items.size (fun i v => items[i]? = some v) (fun i h => h.IsListIter I ax i ∧ h.IsList ax items) where
  own := List.mem_cons_self
  frame := fun _ _ _ st hk => ⟨st.1.at fun o e => hk I (by simp) o e, st.2.at fun o e => hk ax (by simp) o e⟩
  item := fun i s Q E hi st hQ => by
    refine wpAny_pyNext_list_item st.1 st.2 (x := items[i]) (by simp [hi]) fun h' hit' hs' => ?_
    exact hQ _ h' s.toks (by simp [hi]) ⟨hit', st.2.extBut hs'.extBut hne⟩ hs'.1 hs'.extBut
  done := fun s Q E st hQ => listEndZ hh st.1 st.2 (by simp) fun h' he' hz => hQ h' he' hz
  self := fun _ _ _ _ st hQ => wpAny_pyIter_listiter st.1 hQ
def EndZ (P : Nat → Value → Shared → Prop) (y : Value) (s₂ : Shared) : Prop := ∃ n', s₂.heap.objs.size = n' ∧ P n' y s₂
theorem EndZ.intro {P : Nat → Value → Shared → Prop} {y : Value} {s₂ : Shared} {n : Nat} (Z : s₂.heap.objs.size = n) (h : P n y s₂) : EndZ P y s₂ := ⟨n, Z, h⟩
def RestZ (prog : Program) (w : World) (A : Around) (h₀ : Heap) (L : Addr) (m : Str → Option Value) (env : Env) (elt : Expr) (x : Str) (scope : Scope) (cl : List (Str × Addr)) (s : Shared) (S : List (Addr × Obj) → Prop) (P : Nat → Value → Prop)
    (Fin : Nat → List Value → List (Addr × Obj) → Prop) : Nat → Nat → Nat → List Value → List (Addr × Obj) → Prop
  | 0, n, _, ys, news => Fin n ys news
  | k + 1, n, i, ys, news => ∀ v I oI C oC D m₂ h tk (E' : Value → Shared → Prop), P i v → NsObj oC m₂ → m₂ x = some v → Fr h₀ L h m → News h₀ L h ((I, oI) :: (C, oC) :: (D, lst ys) :: news) → Off3 I C D news → ((@Ne Nat I C) ∧ (@Ne Nat I D) ∧ (@Ne Nat C D)) → h.objs.size = n →
      wpAny (model prog w) A (eval elt (compEnvC scope cl C env)) (EndZ fun n' => CompEnd h₀ L m { s with heap := h, toks := tk } I oI C oC D (lst ys) S (fun y news' => RestZ prog w A h₀ L m env elt x scope cl s S P Fin k n' (i + 1) (ys ++ [y]) news')) E' { s with heap := h, toks := tk }
section
variable {prog : Program} {w : World} {A : Around} {E : Value → Shared → Prop} {s : Shared} {h₀ : Heap} {L : Addr} {m : Str → Option Value} {env : Env}
theorem RestZ.zero {elt : Expr} {x : Str} {scope : Scope} {cl : List (Str × Addr)} {S : List (Addr × Obj) → Prop} {P : Nat → Value → Prop} {Fin : Nat → List Value → List (Addr × Obj) → Prop} {i n : Nat} {ys : List Value} {news : List (Addr × Obj)} (h : Fin n ys news) :
    RestZ prog w A h₀ L m env elt x scope cl s S P Fin 0 n i ys news := h
theorem RestZ.succ {elt : Expr} {x : Str} {scope : Scope} {cl : List (Str × Addr)} {S : List (Addr × Obj) → Prop} {P : Nat → Value → Prop} {Fin : Nat → List Value → List (Addr × Obj) → Prop} {k n i : Nat} {ys : List Value} {news : List (Addr × Obj)}
    (h : ∀ v I oI C oC D m₂ h tk (E' : Value → Shared → Prop), P i v → NsObj oC m₂ → m₂ x = some v → Fr h₀ L h m → News h₀ L h ((I, oI) :: (C, oC) :: (D, lst ys) :: news) → Off3 I C D news → ((@Ne Nat I C) ∧ (@Ne Nat I D) ∧ (@Ne Nat C D)) → h.objs.size = n →
      wpAny (model prog w) A (eval elt (compEnvC scope cl C env)) (EndZ fun n' => CompEnd h₀ L m { s with heap := h, toks := tk } I oI C oC D (lst ys) S (fun y news' => RestZ prog w A h₀ L m env elt x scope cl s S P Fin k n' (i + 1) (ys ++ [y]) news')) E' { s with heap := h, toks := tk }) :
    RestZ prog w A h₀ L m env elt x scope cl s S P Fin (k + 1) n i ys news := h
theorem blockZ {elt iter : Expr} {x : Str} {px : Pos} {scope : Scope} {cl : List (Str × Addr)} {pos : Pos} {s₂ : Shared} {I : Addr} {fp : List Addr} {n z : Nat} {P : Nat → Value → Prop} {St : Nat → Heap → Prop} {S : List (Addr × Obj) → Prop} {news : List (Addr × Obj)}
    {Fin : Nat → List Value → List (Addr × Obj) → Prop} {RR : Value → Addr → Result → Shared → Prop}
    (W : WZ prog w A I fp n P St) (hsz : n ≤ sizeLine) (hIo : ∀ i h, St i h → ∃ o, h.get? I = some o)
    (hSt : ∀ i (h h' : Heap) o nw, St i h → h.get? I = some o → h'.get? I = some o → (∀ b o, h₀.get? b = some o → h'.get? b = some o) → News h₀ L h' nw → S nw → St i h')
    (hcell : ∀ y ∈ scope.names, y.2 ≠ .cell) (hkind : scope.kind = .function) (hx : scope.names.lookup x = some .local) (hst : St 0 s₂.heap) (hfp : ∀ b ∈ fp, b < s₂.heap.objs.size)
    (F : Fr h₀ L s₂.heap m) (N : News h₀ L s₂.heap news) (hIL : L ≠ I) (hI₀ : h₀.get? I = none) (off : ∀ p ∈ news, p.1 ≠ I) (hS : S news) (Z : s₂.heap.objs.size = z)
    (R : RestZ prog w A h₀ L m env elt x scope cl s₂ S P Fin n (z + 2) 0 [] news)
    (hRR : ∀ D C h tk m' ys news' k, Fr h₀ L h m → News h₀ L h ((D, lst ys) :: news') → Off1 D news' → h.Ns C m' → h₀.get? C = none → h₀.get? D = none → C ≠ L → D ≠ L → C ≠ D → (∀ p ∈ news', p.1 ≠ C) → Fin k ys news' → h.objs.size = k + 2 → RR (.ref D) C (.ok .next) { s₂ with heap := h, toks := tk }) :
    wpAny (model prog w) A (newList []) (fun acc s₃ => wpAny (model prog w) A (newFunctionEnv scope env.globals cl [] env.qual none .none (some env)) (fun cenv s₄ =>
      codeAny (model prog w) A (.compStart (.ListComp elt [⟨.Name x px, iter, [], 0⟩] scope pos) 0 (.ref I) acc { cenv with scope := relabel scope env }) (RR acc cenv.locals) s₄) E s₃) E s₂ := by
  refine wpAny_newObj_type (wpAny_newFunctionEnv hcell (by intro y hy; simp at hy) (fun h₁ hns₁ hsb₁ => ?_) hkind)
  dsimp only at hns₁ hsb₁ ⊢
  have hz₁ : h₁.objs.size = z + 2 := by rw [hsb₁.1, Heap.size_push, Heap.size_push, Z]
  generalize hH2 : s₂.heap.push { cls := .type "list", dict := none, data := .seq ([] : List Value).toArray } = H2 at hns₁ hsb₁ ⊢
  have hC : H2.objs.size = s₂.heap.objs.size + 1 := by rw [← hH2, Heap.size_push]
  have hDC : s₂.heap.objs.size ≠ H2.objs.size := by rw [hC]; exact Nat.ne_of_lt (Nat.lt_succ_self _)
  have below : ∀ b, b < s₂.heap.objs.size → b ≠ H2.objs.size ∧ b ≠ s₂.heap.objs.size := fun b hb => ⟨by rw [hC]; exact Nat.ne_of_lt (Nat.lt_succ_of_lt hb), Nat.ne_of_lt hb⟩
  have hDf : s₂.heap.objs.size ∉ fp := fun hm => Nat.lt_irrefl _ (hfp _ hm)
  have hCf : H2.objs.size ∉ fp := fun hm => by have := hfp _ hm; rw [hC] at this; exact Nat.lt_irrefl _ (Nat.lt_of_succ_lt this)
  have hIlt : I < s₂.heap.objs.size := hfp I W.own
  have old : ∀ b o, s₂.heap.get? b = some o → h₁.get? b = some o := fun b o e => hsb₁.extBut b o (below b (Heap.lt_size e)).1 (Heap.get?_push_of_some _ (hH2 ▸ Heap.get?_push_of_some _ e))
  have hacc : h₁.get? s₂.heap.objs.size = some (lst []) := hsb₁.extBut _ _ hDC (Heap.get?_push_of_some _ (hH2 ▸ Heap.get?_push_size _ rfl))
  have hst₁ : St 0 h₁ := W.frame _ _ _ hst fun b _ o e => old b o e
  have fresh₀ : ∀ a, s₂.heap.objs.size ≤ a → h₀.get? a = none := fun a ha => by
    cases e : h₀.get? a with
    | none => rfl
    | some o' => exact absurd (Heap.lt_size (F.keep a o' e)) (Nat.not_lt.mpr ha)
  have hD₀ : h₀.get? s₂.heap.objs.size = none := fresh₀ _ (Nat.le_refl _)
  have hC₀ : h₀.get? H2.objs.size = none := fresh₀ _ (by rw [hC]; exact Nat.le_succ _)
  have hLlt : L < s₂.heap.objs.size := F.ns.lt
  have hDL : s₂.heap.objs.size ≠ L := Ne.symm (below L hLlt).2
  have hCL : H2.objs.size ≠ L := Ne.symm (below L hLlt).1
  have hCI : I ≠ H2.objs.size := (below I hIlt).1
  have hDI : I ≠ s₂.heap.objs.size := (below I hIlt).2
  have but : ∀ {h h' : Heap}, Heap.ExtBut I h h' → ∀ b o, b ∉ [I] → h.get? b = some o → h'.get? b = some o := fun hk b o hb e => hk b o (fun q => hb (by simp [q])) e
  have off₀ : Off3 I H2.objs.size s₂.heap.objs.size news := Off3.of fun p hp => ⟨off p hp, (below _ (Heap.lt_size (N p hp).1)).1, (below _ (Heap.lt_size (N p hp).1)).2⟩
  have loop : ∀ s₃ : Shared, s₃ = { s₂ with heap := h₁, toks := s₂.toks + ([] : List (Str × Value)).length } →
      codeAny (model prog w) A (.compLoop (.ListComp elt [⟨.Name x px, iter, [], 0⟩] scope pos) 0 (.ref I) (.ref s₂.heap.objs.size) (compEnvC scope cl H2.objs.size env))
        (RR (.ref s₂.heap.objs.size) H2.objs.size) s₃ := by
    rintro s₃ rfl
    refine codeAny_compLoop_tests
      (fun k s' => ∃ h' tk i ys m' news' z', s' = { s₂ with heap := h', toks := tk } ∧ i ≤ n ∧ k = n + 1 - i ∧ ys.length = i ∧ St i h' ∧ Fr h₀ L h' m ∧ h'.Ns H2.objs.size m' ∧ News h₀ L h' ((s₂.heap.objs.size, lst ys) :: news') ∧
        Off3 I H2.objs.size s₂.heap.objs.size news' ∧ S news' ∧ h'.objs.size = z' ∧ RestZ prog w A h₀ L m env elt x scope cl s₂ S P Fin (n - i) z' i ys news') ?_ (n + 1)
      ⟨h₁, _, 0, [], _, news, _, rfl, Nat.zero_le _, rfl, rfl, hst₁, F.keeps old, hns₁, fun p hp => ?_, off₀, hS, hz₁, R⟩
    · rintro k s' ⟨h', tk, i, ys, m', news', z', rfl, hi, rfl, hyl, hst', F', hn', N', off', hS', hz', R'⟩
      by_cases hlt : i < n
      · obtain ⟨j, hj⟩ : ∃ j, n - i = j + 1 := ⟨n - i - 1, by omega⟩
        rw [hj] at R'
        refine W.item i _ _ _ hlt hst' fun v h₂ tk₂ hPv hst₂ hz₂ hk₂ => ?_
        refine wpAny_assign_Name (wpAny_storeName_local (lookup_relabel_local hx) (hn'.at' fun o e => but hk₂ _ o (by simpa using Ne.symm hCI) e) (fun h₃ hn₃ hs₃ => ?_) (by simp [compEnvC, relabel, hkind]))
        refine wpAny_tests_nil ?_
        simp only [if_true]
        have hst₃ : St (i + 1) h₃ := W.frame _ _ _ hst₂ fun b hb o e => hs₃.extBut b o (fun q => hCf (by have q' : b = H2.objs.size := q; rw [← q']; exact hb)) e
        obtain ⟨oI, heI⟩ := hIo _ _ hst₃
        obtain ⟨oC, heC, hoC⟩ := ns_obj hn₃
        have F₃ : Fr h₀ L h₃ m := (fr_but F' (but hk₂) hIL hI₀).change hs₃ hCL hC₀
        have off3 := off'.mem
        have N₂ : News h₀ L h₂ ((s₂.heap.objs.size, lst ys) :: news') := news_but N' (but hk₂) fun p hp => by
          rcases List.mem_cons.mp hp with rfl | hp
          · exact Ne.symm hDI
          · exact (off3 p hp).1
        have N₃ : News h₀ L h₃ ((I, oI) :: (H2.objs.size, oC) :: (s₂.heap.objs.size, lst ys) :: news') := fun p hp => by
          rcases List.mem_cons.mp hp with rfl | hp
          · exact ⟨heI, Ne.symm hIL, hI₀⟩
          · rcases List.mem_cons.mp hp with rfl | hp
            · exact ⟨heC, hCL, hC₀⟩
            · have y := N₂ p hp
              refine ⟨hs₃.extBut _ _ ?_ y.1, y.2⟩
              rcases List.mem_cons.mp hp with rfl | hp
              · exact hDC
              · exact (off3 p hp).2.1
        refine wpAny_mono (R' v I oI H2.objs.size oC s₂.heap.objs.size _ h₃ _ _ hPv hoC (by simp) F₃ N₃ off' ⟨hCI, hDI, Ne.symm hDC⟩ (by rw [hs₃.1]; exact hz₂.trans hz')) (fun y s₄ h₄ => ?_) fun _ _ e => e
        obtain ⟨z₄, hz₄, h₄, tk₄, news₄, rfl, F₄, N₄, off₄, hS₄, R₄⟩ := h₄
        have zI := (N₄ (I, oI) List.mem_cons_self).1
        have zC := (N₄ (H2.objs.size, oC) (List.mem_cons_of_mem _ List.mem_cons_self)).1
        have zD := (N₄ (s₂.heap.objs.size, lst ys) (List.mem_cons_of_mem _ (List.mem_cons_of_mem _ List.mem_cons_self))).1
        have N₄' : News h₀ L h₄ news₄ := fun p hp => N₄ p (List.mem_cons_of_mem _ (List.mem_cons_of_mem _ (List.mem_cons_of_mem _ hp)))
        have hst₄ : St (i + 1) h₄ := hSt _ _ _ _ _ hst₃ heI zI F₄.keep N₄' hS₄
        refine append_at (hsz := by show ys.toArray.size ≤ sizeLine; rw [List.size_toArray, hyl]; exact Nat.le_trans hi hsz) zD fun h₅ hs₅ hD₅ => ?_
        have off4 := off₄.mem
        refine ⟨n + 1 - (i + 1), by omega, h₅, tk₄, i + 1, ys ++ [y], _, news₄, z₄, rfl, hlt, rfl, by rw [List.length_append, List.length_singleton, hyl], W.frame _ _ _ hst₄ fun b hb o e => hs₅.extBut b o (fun q => hDf (q ▸ hb)) e, F₄.change hs₅ hDL hD₀,
          (hoC.ns zC).sameBut hs₅ (Ne.symm hDC), fun p hp => ?_, off₄, hS₄, hs₅.1.trans hz₄, ?_⟩
        · rcases List.mem_cons.mp hp with rfl | hp
          · exact ⟨hD₅.trans (congrArg some (lst_snoc ys y)), hDL, hD₀⟩
          · exact ⟨hs₅.extBut _ _ (off4 p hp).2.2 (N₄' p hp).1, (N₄' p hp).2⟩
        · rw [show n - (i + 1) = j by omega]
          exact R₄
      · obtain rfl : i = n := Nat.le_antisymm hi (Nat.not_lt.mp hlt)
        rw [Nat.sub_self] at R'
        refine W.done _ _ _ hst' fun h₂ hk₂ hz₂ => ?_
        have off3 := off'.mem
        exact hRR _ _ h₂ _ _ ys news' z' (fr_but F' (but hk₂) hIL hI₀) (news_but N' (but hk₂) fun p hp => by
          rcases List.mem_cons.mp hp with rfl | hp
          · exact Ne.symm hDI
          · exact (off3 p hp).1) off'.one (hn'.at' fun o e => but hk₂ _ o (by simpa using Ne.symm hCI) e) hC₀ hD₀ hCL hDL (Ne.symm hDC) (fun p hp => (off3 p hp).2.1) R' (by rw [hz₂]; exact congrArg (· + 2) hz')
    · rcases List.mem_cons.mp hp with rfl | hp
      · exact ⟨hacc, hDL, hD₀⟩
      · exact ⟨old _ _ (N p hp).1, (N p hp).2⟩
  exact codeAny_compStart_list (loop _ rfl) (W.self 0 _ _ _ hst₁ (loop _ rfl))
def FinZ (h₀ : Heap) (L : Addr) (m : Str → Option Value) (s : Shared) (Q : Value → Shared → Prop) (n : Nat) (ys : List Value) (news : List (Addr × Obj)) : Prop :=
  ∀ D h tk, Fr h₀ L h m → News h₀ L h ((D, lst ys) :: news) → Off1 D news → h.objs.size = n + 2 → Q (.ref D) { s with heap := h, toks := tk }
inductive SrcZ (prog : Program) (w : World) (A : Around) (h₀ : Heap) (L : Addr) (m : Str → Option Value) (env : Env) (elt : Expr) (x : Str) (scope : Scope) (cl : List (Str × Addr)) (Fin : Shared → Nat → List Value → List (Addr × Obj) → Prop) (xv : Value) (s₁ : Shared)  : Prop
  | mk (ax : _) (its : _) (news : _) (z : _) (w1 : xv = .ref ax) (w2 : A.handled = none) (w3 : Fr h₀ L s₁.heap m) (w4 : News h₀ L s₁.heap news) (w5 : SrcAt h₀ ax its news) (w6 : its.size ≤ sizeLine) (w7 : s₁.heap.objs.size = z) (w8 : ∀ s₂ : Shared, (∃ h, s₂ = { s₁ with heap := h }) → RestZ prog w A h₀ L m env elt x scope cl s₂ (SrcAt h₀ ax its) (fun i v => its[i]? = some v) (Fin s₂) its.size (z + 3) 0 [] news)
theorem SrcZ.ledger {elt : Expr} {x : Str} {scope : Scope} {cl : List (Str × Addr)} {Fin : Shared → Nat → List Value → List (Addr × Obj) → Prop} {ax : Addr} {its : Array Value} {k z : Nat} {news : List (Addr × Obj)} {s₁ : Shared}
    (hh : A.handled = none) (F : Fr h₀ L s₁.heap m) (N : News h₀ L s₁.heap news) (Z : s₁.heap.objs.size = z) (hm : (ax, ({ cls := .type "list", data := .seq its k } : Obj)) ∈ news) (hsz : its.size ≤ sizeLine)
    (h : ∀ g, RestZ prog w A h₀ L m env elt x scope cl { s₁ with heap := g } (SrcAt h₀ ax its) (fun i v => its[i]? = some v) (Fin { s₁ with heap := g }) its.size (z + 3) 0 [] news) :
    SrcZ prog w A h₀ L m env elt x scope cl Fin (.ref ax) s₁ := ⟨ax, its, news, z, rfl, hh, F, N, .inr ⟨_, hm, rfl, _, rfl⟩, hsz, Z, fun _ ⟨g, e⟩ => e ▸ h g⟩
theorem listCompZ {elt iter : Expr} {x : Str} {px : Pos} {scope : Scope} {cl : List (Str × Addr)} {pos : Pos} {Q : Value → Shared → Prop} (F₀ : Fr h₀ L s.heap m)
    (hclos : closureFor scope env = pure cl) (hcell : ∀ y ∈ scope.names, y.2 ≠ .cell) (hkind : scope.kind = .function)
    (hnames : ∀ y ∈ scope.names, y.2 = .local → scope.names.lookup y.1 = some .local) (hx : scope.names.lookup x = some .local)
    (h : wpAny (model prog w) A (eval iter env) (SrcZ prog w A h₀ L m env elt x scope cl (fun s₂ => FinZ h₀ L m s₂ Q)) E s)
    (hs : ∀ x, foldedSetIterable iter env x = pure x := by intro _; rfl) :
    wpAny (model prog w) A (eval (.ListComp elt [⟨.Name x px, iter, [], 0⟩] scope pos) env) Q E s := by
  rw [eval_ListComp]
  refine wpAny_comprehension_free (use := none) rfl hs hclos hkind hnames (wpAny_mono h (fun xv s₁ h₁ => ?_) fun _ _ e => e)
  obtain ⟨ax, its, news, z, rfl, hh, F, N, S, hsz, Z, R⟩ := h₁
  have hl := S.list F.keep N
  have hlt : ax < s₁.heap.objs.size := by obtain ⟨_, e, _⟩ := hl; exact Heap.lt_size e
  refine wpAny_pyIter_list hl ?_
  have up : ∀ b o, s₁.heap.get? b = some o → (s₁.heap.push { cls := .type "list_iterator", data := .fields #[.ref ax, .int 0 0] }).get? b = some o := fun b o e => Heap.get?_push_of_some _ e
  refine blockZ (z := z + 1) (WZ.list hh s₁.heap.objs.size ax (Nat.ne_of_lt hlt) its) hsz (fun i h st => by obtain ⟨o, e, _⟩ := st.1; exact ⟨o, e⟩) list_st hcell hkind hx ⟨⟨_, Heap.get?_push_size _ rfl, rfl, rfl⟩, hl.push _⟩ (fun b hb => ?_)
    (F.keeps up) (N.grown up) (Nat.ne_of_lt F.ns.lt) (next_is_new F) (fun p hp => Nat.ne_of_lt (Heap.lt_size (N p hp).1)) S (by show (s₁.heap.push _).objs.size = _; rw [Heap.size_push, Z]) (R _ ⟨_, rfl⟩) ?_
  · show b < (s₁.heap.push _).objs.size
    rw [Heap.size_push]
    rcases List.mem_cons.mp hb with rfl | hb
    · exact Nat.lt_succ_self _
    · rw [List.mem_singleton.mp hb]; exact Nat.lt_succ_of_lt hlt
  · intro D C h tk m' ys news' k F' N' o1 hn hC₀ hD₀ hCL hDL hCD offC fin hz
    refine ⟨m', hn, fun h'' hs'' => fin D h'' tk (F'.change hs'' hCL hC₀) (fun p hp => ?_) o1 (hs''.1.trans hz)⟩
    refine ⟨hs''.extBut _ _ ?_ (N' p hp).1, (N' p hp).2⟩
    rcases List.mem_cons.mp hp with rfl | hp
    · exact Ne.symm hCD
    · exact offC p hp
end
end Mine
end SecbSc
section SecbHM
theorem Mine.offbHM : True := by
  w_top off
  k_with_none
  trivial
namespace Mine
section
variable {α : Type} (pre : α → α → Prop)
def HeapL (zs : List α) : Prop := ∀ i x y, 0 < i → zs[(i - 1) / 2]? = some x → zs[i]? = some y → pre x y
def UpL (zs : List α) (k : Nat) : Prop :=
  (∀ i x y, 0 < i → i ≠ k → zs[(i - 1) / 2]? = some x → zs[i]? = some y → pre x y) ∧
  (∀ c x y, 0 < c → 0 < k → (c - 1) / 2 = k → zs[(k - 1) / 2]? = some x → zs[c]? = some y → pre x y)
def DownL (zs : List α) (k : Nat) : Prop :=
  (∀ i x y, 0 < i → i ≠ k → (i - 1) / 2 ≠ k → zs[(i - 1) / 2]? = some x → zs[i]? = some y → pre x y) ∧
  (∀ c x y, 0 < c → 0 < k → (c - 1) / 2 = k → zs[(k - 1) / 2]? = some x → zs[c]? = some y → pre x y)
noncomputable def swL (zs : List α) (i j : Nat) (a b : α) : List α := (zs.set i b).set j a
theorem swL_get {zs : List α} {i j : Nat} {a b : α} (hi : zs[i]? = some a) (hj : zs[j]? = some b) (k : Nat) :
    (swL zs i j a b)[k]? = if k = j then some a else if k = i then some b else zs[k]? := by
  have li := (List.getElem?_eq_some_iff.mp hi).1
  have lj := (List.getElem?_eq_some_iff.mp hj).1
  unfold swL
  by_cases h1 : k = j
  · subst h1; simp [lj]
  · by_cases h2 : k = i
    · subst h2; simp [li, h1, Ne.symm h1]
    · simp [h1, h2, Ne.symm h1, Ne.symm h2]
theorem swL_perm {zs : List α} {i j : Nat} {a b : α} (hi : zs[i]? = some a) (hj : zs[j]? = some b) : (swL zs i j a b).Perm zs := by
  obtain ⟨li, e1⟩ := List.getElem?_eq_some_iff.mp hi
  obtain ⟨lj, e2⟩ := List.getElem?_eq_some_iff.mp hj
  unfold swL
  rw [← e1, ← e2]
  exact List.set_set_perm li lj
theorem UpL.done {pre : α → α → Prop} {zs : List α} {k : Nat} (U : UpL pre zs k) (h : k = 0 ∨ ∀ x y, zs[(k - 1) / 2]? = some x → zs[k]? = some y → pre x y) : HeapL pre zs := by
  intro i x y hi hx hy
  by_cases e : i = k
  · subst e
    rcases h with h | h
    · omega
    · exact h x y hx hy
  · exact U.1 i x y hi e hx hy
theorem UpL.step {pre : α → α → Prop} (tr : ∀ a b c, pre a b → pre b c → pre a c) {zs : List α} {k : Nat} {a b : α} (U : UpL pre zs k) (hk : 0 < k) (ha : zs[k]? = some a) (hb : zs[(k - 1) / 2]? = some b) (hlt : pre a b) :
    UpL pre (swL zs k ((k - 1) / 2) a b) ((k - 1) / 2) := by
  refine ⟨fun i x y hi hne hx hy => ?_, fun c x y hc hp he hx hy => ?_⟩
  · rw [swL_get ha hb] at hx hy
    rw [if_neg hne] at hy
    by_cases e1 : (i - 1) / 2 = (k - 1) / 2
    · rw [if_pos e1] at hx; cases hx
      by_cases e2 : i = k
      · rw [if_pos e2] at hy; cases hy; exact hlt
      · rw [if_neg e2] at hy
        exact tr _ _ _ hlt (U.1 i b y hi e2 (by rw [e1]; exact hb) hy)
    · rw [if_neg e1] at hx
      by_cases e2 : i = k
      · subst e2; exact absurd rfl e1
      · rw [if_neg e2] at hy
        by_cases e3 : (i - 1) / 2 = k
        · rw [if_pos e3] at hx; cases hx
          exact U.2 i _ y hi hk e3 hb hy
        · rw [if_neg e3] at hx
          exact U.1 i x y hi e2 hx hy
  · rw [swL_get ha hb] at hx hy
    rw [if_neg (by omega), if_neg (by omega)] at hx
    have hbb : pre x b := U.1 ((k - 1) / 2) x b hp (by omega) hx hb
    rw [if_neg (by omega)] at hy
    by_cases e2 : c = k
    · rw [if_pos e2] at hy; cases hy; exact hbb
    · rw [if_neg e2] at hy
      exact tr _ _ _ hbb (U.1 c b y hc e2 (by rw [he]; exact hb) hy)
theorem DownL.step {pre : α → α → Prop} {zs : List α} {k c : Nat} {a b : α} (D : DownL pre zs k) (hc : c = 2 * k + 1 ∨ c = 2 * k + 2) (ha : zs[k]? = some a) (hb : zs[c]? = some b)
    (hs : ∀ d y, d ≠ c → (d = 2 * k + 1 ∨ d = 2 * k + 2) → zs[d]? = some y → pre b y) :
    DownL pre (swL zs k c a b) c := by
  have hkc : (c - 1) / 2 = k := by omega
  refine ⟨fun i x y hi hne hp hx hy => ?_, fun d x y hd hp he hx hy => ?_⟩
  · rw [swL_get ha hb] at hx hy
    rw [if_neg hne] at hy
    rw [if_neg hp] at hx
    by_cases e1 : (i - 1) / 2 = k
    · rw [if_pos e1] at hx; cases hx
      rw [if_neg (by omega)] at hy
      exact hs i y hne (by omega) hy
    · rw [if_neg e1] at hx
      by_cases e2 : i = k
      · rw [if_pos e2] at hy; cases hy
        subst e2
        exact D.2 c x _ (by omega) hi hkc hx hb
      · rw [if_neg e2] at hy
        exact D.1 i x y hi e2 e1 hx hy
  · rw [swL_get ha hb] at hx hy
    rw [hkc, if_neg (by omega), if_pos rfl] at hx; cases hx
    rw [if_neg (by omega), if_neg (by omega)] at hy
    exact D.1 d _ y hd (by omega) (by omega) (by rw [he]; exact hb) hy
theorem DownL.leaf {pre : α → α → Prop} {zs : List α} {k : Nat} (D : DownL pre zs k) (h : zs.length ≤ 2 * k + 1) : UpL pre zs k := by
  refine ⟨fun i x y hi hne hx hy => D.1 i x y hi hne (fun e => ?_) hx hy, D.2⟩
  have := (List.getElem?_eq_some_iff.mp hy).1
  omega
theorem UpL.leafPush {pre : α → α → Prop} {zs : List α} {a : α} (H : HeapL pre zs) : UpL pre (zs ++ [a]) zs.length := by
  refine ⟨fun i x y hi hne hx hy => ?_, fun c x y hc hk he hx hy => ?_⟩
  · have l := (List.getElem?_eq_some_iff.mp hy).1
    rw [List.length_append, List.length_singleton] at l
    rw [List.getElem?_append_left (by omega)] at hx hy
    exact H i x y hi hx hy
  · have l := (List.getElem?_eq_some_iff.mp hy).1
    rw [List.length_append, List.length_singleton] at l
    omega
theorem HeapL.root {pre : α → α → Prop} (rf : ∀ a, pre a a) (tr : ∀ a b c, pre a b → pre b c → pre a c) {zs : List α} {r : α} (H : HeapL pre zs) (h0 : zs[0]? = some r) : ∀ (i : Nat) (y : α), zs[i]? = some y → pre r y := by
  intro i
  induction i using Nat.strongRecOn with
  | _ i ih =>
    intro y hy
    by_cases e : i = 0
    · subst e; rw [h0] at hy; cases hy; exact rf _
    · have l := (List.getElem?_eq_some_iff.mp hy).1
      obtain ⟨x, hx⟩ : ∃ x, zs[(i - 1) / 2]? = some x := ⟨_, List.getElem?_eq_getElem (by omega)⟩
      exact tr _ _ _ (ih _ (by omega) x hx) (H i x y (by omega) hx hy)
theorem DownL.ofPop {pre : α → α → Prop} {zs ys : List α} {a : α} (H : HeapL pre zs) (hz : zs = ys ++ [a]) (hy : ys ≠ []) : DownL pre (ys.set 0 a) 0 := by
  subst hz
  refine ⟨fun i x y hi hne hp hx hy' => ?_, fun c x y _ h0 => absurd h0 (Nat.lt_irrefl 0)⟩
  rw [List.getElem?_set_ne (by omega)] at hx hy'
  have l := (List.getElem?_eq_some_iff.mp hy').1
  exact H i x y hi (by rw [List.getElem?_append_left (by omega)]; exact hx) (by rw [List.getElem?_append_left l]; exact hy')
end
end Mine
end SecbHM
section SecbHR
theorem Mine.offbHR : True := by
  w_top off
  k_with_none
  trivial
open PySem PySem.W PyProof.Rows PySem.Spec PySem.Calls
set_option maxRecDepth 100000
set_option maxHeartbeats 8000000
namespace Mine
abbrev Kept (h : Heap) (news : List (Addr × Obj)) (h' : Heap) : Prop := ∀ b o, h.get? b = some o → (∀ p ∈ news, p.1 ≠ b) → h'.get? b = some o
abbrev KI (KF : Frag) (h : Heap) (news : List (Addr × Obj)) : Prop := ∀ b o, KF.lookup b = some o → h.get? b = some o ∧ ∀ p ∈ news, p.1 ≠ b
section
variable {prog : Program} {w : World} {A A₀ : Around} {E : Value → Shared → Prop} {s : Shared} {h₀ base : Heap} {L l a b D : Addr} {m : Str → Option Value} {news news' : List (Addr × Obj)} {n : Nat} {outer : List Env} {env : Env}
theorem absPost {M : Model} {A : Around} {c : Sem Flow} {Q : Flow → Shared → Prop} {E : Value → Shared → Prop} {s : Shared} (h : ∀ (P : Flow → Shared → Prop) (F : Value → Shared → Prop), P = Q → F = E → wpAny M A c P F s) : wpAny M A c Q E s := h Q E rfl rfl
def InW (KF : Frag) (g : Heap) : Prop := KF.In g
theorem kiOf {KF : Frag} {h : Heap} (XK : InW KF h₀) (F : Fr h₀ L h m) (N : News h₀ L h news) : KI KF h news := fun b o e =>
  ⟨F.keep b o (XK _ _ e), fun p hp q => by have := (N p hp).2.2; rw [q, XK _ _ e] at this; cases this⟩
theorem inOf {KF : Frag} {g : Heap} (K : KI KF s.heap news) (K1 : Kept s.heap news g) : InW KF g := fun b o e => K1 b o (K b o e).1 (K b o e).2
theorem codeDefF {R : Result → Shared → Prop} {K : Frag} {p : Program} {loose : List Str} {mean : ExcName → Option Value} {mg mb : Str → Option Value} {name qual : Str} {params : Arguments} {body : List Stmt} {scope : Scope} {dV kV doc pm cdv ct oc : Value} {an od : Option Addr} {osl : Array (Option Value)} {f : Addr} {args : Args} {binds : List (Str × Value)}
    (B : Below A₀ base outer h₀) (F : Fr h₀ L s.heap m) (X₀ : K.In h₀) (N : News h₀ L s.heap news) (T : Top p loose mean mg mb h₀) (hA : A.frames = some (env :: outer)) (hf : env.frame = some L) (hke : env.scope.kind = .function)
    (ho : K.lookup f = some ⟨oc, od, .func (fnOf name qual params body scope dV kV doc pm an cdv ct), osl⟩) (hcd : codeIn K cdv qual = true) (hroom : A.depth < recursionLimit)
    (hbind : BindsTo s (fnOf name qual params body scope dV kV doc pm an cdv ct) args binds) (hloc : ∀ y ∈ binds, scope.names.lookup y.1 = some .local)
    (h : ∀ g L' h₁, Fr h₀ L g m → Fr g L' h₁ (fun y => binds.reverse.lookup y) → News g L' h₁ news → Below A base (env :: outer) g → K.In g → Top p loose mean mg mb g → Kept s.heap news g →
      wpAny (model prog w) (A.deeper (envOf qual scope L' f cdv)) (execs body (envOf qual scope L' f cdv))
        (fun fl s' => LeaveK h₀ L m g R (match fl with | .ret v => v | _ => .none) s')
        (fun e s' => wpAny (model prog w) (A.deeper (envOf qual scope L' f cdv)) (leaving (envOf qual scope L' f cdv) e) (fun _ s'' => R (.error e) s'') (fun e' s'' => R (.error e') s'') s')
        { s with heap := h₁, toks := s.toks + binds.length })
    (hco : scope.isCoroutine = false) (hgen : scope.isGenerator = false) (hk : scope.kind = .function)
    (hcell : ∀ x ∈ scope.names, x.2 ≠ .cell) : codeAny (model prog w) A (.call (.ref f) args) R s := by
  obtain ⟨FG, BG, st, lv⟩ := groundX (R := R) B F N hA hf hke
  have X := X₀.keeps F.keep
  refine codeAny_call_def (fd := fnOf name qual params body scope dV kV doc pm an cdv ct) (body := body) (binds := binds) hroom (X _ _ ho) rfl (T.nolimit.keeps F.keep) (codeRec_of X hcd) rfl hbind hcell hloc (fun h₁ hns hk₁ => ?_) hco hgen hk
  exact wpAny_mono (h _ s.heap.objs.size h₁ FG ⟨hns, fun b o e => hk₁ b o (of_hideAll _ e), Nat.le_of_eq (hideAll_size _ _)⟩
    (fun p hp => ⟨hk₁ _ _ (N p hp).1, Nat.ne_of_lt (Heap.lt_size (N p hp).1), hideAll_none _ (List.mem_map_of_mem hp)⟩) BG (X₀.keeps st) (T.keeps st)
    (fun b o e ne => hideAll_get _ e fun q => by obtain ⟨p, hp, q⟩ := List.mem_map.mp q; exact ne p hp q)) (fun fl s' hl => lv _ _ hl) fun _ _ y => y
def WStep (h₀ : Heap) (L : Addr) (s : Shared) (J : Nat → (Str → Option Value) → List (Addr × Obj) → Prop) (Q : Flow → Shared → Prop) (n : Nat) (f : Flow) (s₃ : Shared) : Prop := match f with
  | .next | .cont => ∃ h' tk m₂ news₂ n', s₃ = { s with heap := h', toks := tk } ∧ Fr h₀ L h' m₂ ∧ News h₀ L h' news₂ ∧ n' < n ∧ J n' m₂ news₂
  | .brk => Q .next s₃
  | .ret v => Q (.ret v) s₃
theorem WStep.next {h' : Heap} {J : Nat → (Str → Option Value) → List (Addr × Obj) → Prop} {Q : Flow → Shared → Prop} {n n' tk : Nat} {m₂ : Str → Option Value} {news₂ : List (Addr × Obj)}
    (F : Fr h₀ L h' m₂) (N : News h₀ L h' news₂) (hn : n' < n) (hJ : J n' m₂ news₂) : WStep h₀ L s J Q n .next { s with heap := h', toks := tk } := ⟨h', tk, m₂, news₂, n', rfl, F, N, hn, hJ⟩
theorem WStep.cont {h' : Heap} {J : Nat → (Str → Option Value) → List (Addr × Obj) → Prop} {Q : Flow → Shared → Prop} {n n' tk : Nat} {m₂ : Str → Option Value} {news₂ : List (Addr × Obj)}
    (F : Fr h₀ L h' m₂) (N : News h₀ L h' news₂) (hn : n' < n) (hJ : J n' m₂ news₂) : WStep h₀ L s J Q n .cont { s with heap := h', toks := tk } := ⟨h', tk, m₂, news₂, n', rfl, F, N, hn, hJ⟩
theorem whileK {Q : Flow → Shared → Prop} {test : Expr} {body : List Stmt} {pos : Pos} (J : Nat → (Str → Option Value) → List (Addr × Obj) → Prop) {n₀ : Nat}
    (F : Fr h₀ L s.heap m) (N : News h₀ L s.heap news) (hJ : J n₀ m news)
    (turn : ∀ n m₁ news₁ h₁ tk₁, Fr h₀ L h₁ m₁ → News h₀ L h₁ news₁ → J n m₁ news₁ →
      wpAny (model prog w) A (isTrue test env (eval test env)) (fun b s₂ =>
        if b = true then wpAny (model prog w) A (execs body env) (WStep h₀ L s J Q n) E s₂ else Q .next s₂) E { s with heap := h₁, toks := tk₁ })
    (hE : PassesOwn (model prog w) A env E) :
    wpAny (model prog w) A (exec (.While test body [] pos) env) Q E s := by
  refine wpAny_While (codeAny_whileLoop (fun n s' => ∃ h₁ tk₁ m₁ news₁, s' = { s with heap := h₁, toks := tk₁ } ∧ Fr h₀ L h₁ m₁ ∧ News h₀ L h₁ news₁ ∧ J n m₁ news₁) ?_ n₀ ⟨s.heap, s.toks, m, news, rfl, F, N, hJ⟩)
  rintro n s' ⟨h₁, tk₁, m₁, news₁, rfl, F₁, N₁, J₁⟩
  refine wpAny_mono (turn n m₁ news₁ h₁ tk₁ F₁ N₁ J₁) (fun b s₂ h₂ => ?_) hE
  cases b with
  | false =>
    simp only [Bool.false_eq_true, if_false] at h₂ ⊢
    exact wpAny_execs_nil h₂
  | true =>
    simp only [if_true] at h₂ ⊢
    refine wpAny_mono h₂ (fun f s₃ h₃ => ?_) hE
    cases f with
    | next => obtain ⟨h', tk, m₂, news₂, n', rfl, F₂, N₂, hn, J₂⟩ := h₃; exact ⟨n', hn, h', tk, m₂, news₂, rfl, F₂, N₂, J₂⟩
    | cont => obtain ⟨h', tk, m₂, news₂, n', rfl, F₂, N₂, hn, J₂⟩ := h₃; exact ⟨n', hn, h', tk, m₂, news₂, rfl, F₂, N₂, J₂⟩
    | brk => exact h₃
    | ret v => exact h₃
theorem setItemK {Q : Unit → Shared → Prop} {vs : List Value} {k : Int} {t : Tok} {x : Value} (F : Fr h₀ L s.heap m) (N : News h₀ L s.heap news) (U : Upd D (listOf vs.toArray n) (listOf (vs.set k.toNat x).toArray n) news news') (h0 : 0 ≤ k) (h1 : k < vs.length) (hfit : k < 2 ^ 63)
    (h : ∀ h', Fr h₀ L h' m → News h₀ L h' news' → Q () { s with heap := h' }) : wpAny (model prog w) A (setItem (.ref D) (.int k t) x) Q E s := by
  obtain ⟨pre, post, rfl, rfl, a, b⟩ := U.split
  have z := N (D, listOf vs.toArray n) (List.mem_append.mpr (.inr (.head _)))
  have hs : vs.toArray.size = vs.length := List.size_toArray
  have hj : k.toNat < vs.length := by omega
  refine ki_setAt z.1 h0 hfit (by omega) (h _ (F.change (Heap.SameBut.update ..) z.2.1 z.2.2) (ki_turn _ N a b ?_ ?_))
  · show vs.toArray.setIfInBounds k.toNat x = (vs.set k.toNat x).toArray
    apply Array.toList_inj.mp
    simp
  · simp
end
end Mine
end SecbHR
section SecbS1
theorem Mine.offbS1 : True := by
  w_top off
  k_with_none
  trivial
open PySem PySem.W PyProof.Rows PySem.Spec PySem.Calls
set_option maxRecDepth 100000
set_option maxHeartbeats 8000000
namespace Mine
abbrev CtG (w : World) (KF : Frag) (x : Sem Value) (d : Nat) (news : List (Addr × Obj)) (Ret : Value → List (Addr × Obj) → Prop) : Prop :=
  ∀ (p : Program) (loose : List Str) (mean : ExcName → Option Value) (mg mb : Str → Option Value) (dp un : Nat) (gd : Option (List Code)) (cn : Str) (cs : Scope) (a : Addr) (ccd : Value) (cl : List (Str × Addr)) (outer : List Env) (A₀ : Around) (base h₀ : Heap) (L : Addr) (m : Str → Option Value) (s : Shared) (Q E : Value → Shared → Prop),
    Below A₀ base outer h₀ → CodeHd base 34 30 → CodeHd base 41 37 → CodeHd base 62 58 → Fr h₀ L s.heap m → (hd2.heap_39 w.params).In h₀ → KI KF s.heap news → News h₀ L s.heap news → Top p loose mean mg mb h₀ → cs.kind = .function → dp + d < recursionLimit → un + 8 * d < cLine →
    (∀ r news' h' tk', Fr h₀ L h' m → News h₀ L h' news' → Kept s.heap news h' → Ret r news' → Q r { s with heap := h', toks := tk' }) →
    wpAny (model PySem.Challenge.rw_nq0126_02.row.prog w) (ktrTop dp un gd cn cs L a ccd cl outer) x Q E s
abbrev CtH (w : World) (KF : Frag) (x : Sem Value) (d : Nat) (news : List (Addr × Obj)) (Ret : Value → List (Addr × Obj) → Prop) : Prop :=
  ∀ (p : Program) (loose : List Str) (mean : ExcName → Option Value) (mg mb : Str → Option Value) (dp un : Nat) (gd : Option (List Code)) (cn : Str) (cs : Scope) (a : Addr) (ccd : Value) (cl : List (Str × Addr)) (outer : List Env) (A₀ : Around) (base h₀ : Heap) (L : Addr) (m : Str → Option Value) (s : Shared) (Q E : Value → Shared → Prop),
    Below A₀ base outer h₀ → CodeHd base 34 30 → CodeHd base 41 37 → CodeHd base 62 58 → Fr h₀ L s.heap m → (hd2.heap_39 w.params).In h₀ → InW KF h₀ → News h₀ L s.heap news → Top p loose mean mg mb h₀ → cs.kind = .function → dp + d < recursionLimit → un + 8 * d < cLine →
    (∀ r news' h' tk', Fr h₀ L h' m → News h₀ L h' news' → Ret r news' → Q r { s with heap := h', toks := tk' }) →
    wpAny (model PySem.Challenge.rw_nq0126_02.row.prog w) (ktrTop dp un gd cn cs L a ccd cl outer) x Q E s
abbrev refs {ι : Type} (zs : List (Addr × ι)) : List Value := zs.map fun z => .ref z.1
def CmpOk {ι : Type} (w : World) (KF : Frag) (Inv : List (Addr × Obj) → Prop) (It : Addr → ι → Prop) (pre : ι → ι → Prop) (d : Nat) : Prop :=
  ∀ v1 a1 v2 a2 H o W, It v1 a1 → It v2 a2 → Inv W → (∀ p ∈ W, p.1 ≠ H) → CtH w KF (compareOp .Lt (.ref v1) (.ref v2)) d ((H, o) :: W) (fun r news' => ∃ b W', r = .bool b ∧ news' = (H, o) :: W' ∧ Inv W' ∧ (∀ p ∈ W', p.1 ≠ H) ∧ (if b = true then pre a1 a2 else pre a2 a1))
abbrev preZ {ι : Type} (pre : ι → ι → Prop) : Addr × ι → Addr × ι → Prop := fun x y => pre x.2 y.2
abbrev SiftRet {ι : Type} (Inv : List (Addr × Obj) → Prop) (pre : ι → ι → Prop) (H : Addr) (c : Nat) (zs : List (Addr × ι)) : Value → List (Addr × Obj) → Prop := fun r news' =>
  r = .none ∧ ∃ zs' W', news' = (H, listOf (refs zs').toArray c) :: W' ∧ zs'.Perm zs ∧ HeapL (preZ pre) zs' ∧ Inv W' ∧ ∀ p ∈ W', p.1 ≠ H
theorem rulesS1 : True := by
  k_with_none
  k_with "call ref" => refine stop ?_
  k_with "exec While Compare" => refine stop ?_
  k_with "exec While" => refine stop ?_
  k_with "compareOp Lt ref ref" => refine stop ?_
  k_with "compareOp Lt ref" => refine stop ?_
  k_with "subscriptTail Name" => (k_here; (refine' kim_list (by k_asm) (by k_mem) (by rfl) (by rfl) (by first | omega | (rw [half_is (by assumption)]; omega)) (by first | omega | (rw [half_is (by assumption)]; omega)) (by assumption) ?_))
  k_with "setItem ref int ref" => (k_here; (refine' setItemK (by k_asm) (by k_asm) (by exact Upd.head (by assumption)) (by omega) (by omega) (by omega) ?_); intro hq9 Fq9 Nq9; (try k_sweep))
  k_with "eval Name" => (k_here; k_dflt (refine' ld (by k_asm) (by first | exact rfl | assumption) ?_; k_whole))
  trivial
theorem half_is {n : Nat} (hn : 0 < n) : ((n : Int) - 1).fdiv (2 ^ Int.toNat 1) = (((n - 1) / 2 : Nat) : Int) := by
  show ((n : Int) - 1).fdiv 2 = _
  rw [Int.fdiv_eq_ediv_of_nonneg _ (by omega)]; omega
theorem set_same {ι : Type} {zs : List (Addr × ι)} {k : Nat} {z : Addr × ι} (hz : zs[k]? = some z) : (refs zs).set k (.ref z.1) = refs zs := by
  apply List.ext_getElem?; intro i; rw [List.getElem?_set]; split
  · rename_i e; subst e
    have hkl := (List.getElem?_eq_some_iff.mp hz).1
    rw [if_pos (by simpa [refs] using hkl)]; simp [refs, hz]
  · rfl
theorem set_other {ι : Type} {zs : List (Addr × ι)} {vs : List Value} {k i : Nat} {v : Value} (hv : vs.set k v = refs zs) (hi : i ≠ k) : vs[i]? = (zs[i]?).map fun z => .ref z.1 := by
  have := congrArg (fun l => l[i]?) hv
  simp only [List.getElem?_set_ne (Ne.symm hi)] at this
  rw [this]; simp [refs]
theorem set_swap {ι : Type} {zs : List (Addr × ι)} {vs : List Value} {i j : Nat} {a b : Addr × ι} (hv : vs.set i (.ref a.1) = refs zs) : ((vs.set i (.ref b.1)).set j (.ref a.1)) = refs (swL zs i j a b) := by
  have e : (vs.set i (.ref a.1)).set i (.ref b.1) = vs.set i (.ref b.1) := List.set_set _
  rw [← e, hv]
  simp [refs, swL, List.map_set]
theorem kept_ {g h h' : Heap} {L' : Addr} {m' : Str → Option Value} {news : List (Addr × Obj)} (K1 : Kept h news g) (F : Fr g L' h' m') : Kept h news h' := fun b o e ne => F.keep b o (K1 b o e ne)
inductive SdJ {ι : Type} (Inv : List (Addr × Obj) → Prop) (pre : ι → ι → Prop) (H : Addr) (c : Nat) (zs : List (Addr × ι)) (z : Addr × ι) (t0 : Tok) (n : Nat) (m₁ : Str → Option Value) (news₁ : List (Addr × Obj))  : Prop
  | mk (zs' : List (Addr × ι)) (vs' : List Value) (W' : List (Addr × Obj)) (t : Tok) (w1 : m₁ (Str.ofString "heap") = some (.ref H)) (w2 : m₁ (Str.ofString "startpos") = some (.int 0 t0)) (w3 : m₁ (Str.ofString "pos") = some (.int (n : Int) t)) (w4 : m₁ (Str.ofString "newitem") = some (.ref z.1)) (w5 : news₁ = (H, listOf vs'.toArray c) :: W') (w6 : vs'.set n (.ref z.1) = refs zs') (w7 : zs'[n]? = some z) (w8 : zs'.Perm zs) (w9 : UpL (preZ pre) zs' n) (w10 : Inv W') (w11 : ∀ p ∈ W', p.1 ≠ H)
theorem sdj_use {ι : Type} {Inv : List (Addr × Obj) → Prop} {pre : ι → ι → Prop} {H L : Addr} {h₀ : Heap} {c : Nat} {zs : List (Addr × ι)} {z : Addr × ι} {t0 : Tok} {G : Nat → (Str → Option Value) → Heap → Nat → Prop}
    (k : ∀ (n : Nat) m₁ h₁ tk₁ zs' vs' W' t, Fr h₀ L h₁ m₁ → News h₀ L h₁ ((H, listOf (List.toArray vs') c) :: W') → m₁ (Str.ofString "heap") = some (.ref H) → m₁ (Str.ofString "startpos") = some (.int 0 t0) → m₁ (Str.ofString "pos") = some (.int (n : Int) t) → m₁ (Str.ofString "newitem") = some (.ref z.1) →
      vs'.set n (.ref z.1) = refs zs' → zs'[n]? = some z → zs'.Perm zs → UpL (preZ pre) zs' n → Inv W' → (∀ p ∈ W', p.1 ≠ H) → G n m₁ h₁ tk₁) :
    ∀ n m₁ news₁ h₁ tk₁, Fr h₀ L h₁ m₁ → News h₀ L h₁ news₁ → SdJ Inv pre H c zs z t0 n m₁ news₁ → G n m₁ h₁ tk₁ := by
  rintro n m₁ _ h₁ tk₁ F N ⟨zs', vs', W', t, e1, e2, e3, e4, rfl, a, b, c, d, e, f⟩
  exact k _ _ _ _ _ _ _ _ F N e1 e2 e3 e4 a b c d e f
theorem cmp_use {ι : Type} {Inv : List (Addr × Obj) → Prop} {pre : ι → ι → Prop} {H L : Addr} {h₀ : Heap} {o : Obj} {m : Str → Option Value} {a1 a2 : ι} {G : Value → Heap → Nat → Prop}
    (k : ∀ b W' h' tk', Fr h₀ L h' m → News h₀ L h' ((H, o) :: W') → Inv W' → (∀ p ∈ W', p.1 ≠ H) → (if b = true then pre a1 a2 else pre a2 a1) → G (.bool b) h' tk') :
    ∀ r news' h' tk', Fr h₀ L h' m → News h₀ L h' news' → (∃ b W', r = .bool b ∧ news' = (H, o) :: W' ∧ Inv W' ∧ (∀ p ∈ W', p.1 ≠ H) ∧ (if b = true then pre a1 a2 else pre a2 a1)) → G r h' tk' := by
  rintro _ _ h' tk' F N ⟨b, W', rfl, rfl, a, c, d⟩
  exact k _ _ _ _ F N a c d
theorem siftdown {ι : Type} (w : World) (KF : Frag) (Inv : List (Addr × Obj) → Prop) (It : Addr → ι → Prop) (pre : ι → ι → Prop) (d : Nat) (tr : ∀ a b c, pre a b → pre b c → pre a c) (HC : CmpOk w KF Inv It pre d)
    (H : Addr) (c k : Nat) (zs : List (Addr × ι)) (W : List (Addr × Obj)) (z : Addr × ι) (t0 t1 : Tok) (hz : zs[k]? = some z) (hU : UpL (preZ pre) zs k) (hIt : ∀ x ∈ zs, It x.1 x.2) (hlen : zs.length < 2 ^ 20) (hI : Inv W) (hW : ∀ p ∈ W, p.1 ≠ H) :
    CtG w KF (call (.ref 93) [.ref H, .int 0 t0, .int (k : Int) t1]) (d + 1) ((H, listOf (refs zs).toArray c) :: W) (SiftRet Inv pre H c zs) := by
  have hkl := (List.getElem?_eq_some_iff.mp hz).1
  have hx : (refs zs)[((k : Nat) : Int).toNat]? = some (.ref z.1) := by simp [refs, hz]
  unfold CtG; k_fill
  intro p loose mean mg mb dp un gd cn cs a ccd cl outer A₀ base h₀ L m s Q E B C1 C2 C3 F X KIh N T hk hd hu hret
  refine wpAny_call ?_
  k_dflt (refine' codeDefF ?k1 ?k2 ?k3 ?k4 ?k5 ?kA ?kF ?kK ?k6 ?k7 ?k8 ?k9 ?kB ?_ ?c2 ?c3 ?c4 ?c5; (case kA => exact rfl); (case kF => exact rfl); (case kK => assumption); (case k1 => k_asm); (case k2 => k_asm); (case k3 => k_asm); (case k4 => k_asm); (case k5 => k_asm); (case k6 => k_is); (case k7 => k_is); (case k8 => k_room); (case k9 => exact BindsTo.of_eq rfl); (case kB => exact locs rfl); (case c2 => exact rfl); (case c3 => exact rfl); (case c4 => exact rfl); (case c5 => decide); intro g' L' h' FG' F' N' B' X' T' K1'; (try dsimp only); (try k_lift B'); (try k_fold))
  have XK := inOf KIh K1'
  w_strict k_steps
  unfold Stop
  refine' whileK (SdJ Inv pre H c zs z t0) (n₀ := k) (by k_asm) (by k_asm) ⟨zs, refs zs, W, t1, rfl, rfl, rfl, rfl, rfl, set_same hz, hz, .refl _, hU, hI, hW⟩ ?turn ?hE
  case hE => passes_own
  case turn =>
    refine sdj_use ?_
    intro n m₁ h₁ tk₁ zs' vs' W' t F1 N1 e1 e2 e3 e4 hv hz' hp hU' hI' hW'
    have hnl := (List.getElem?_eq_some_iff.mp hz').1
    have hvl : vs'.length = zs'.length := by have := congrArg List.length hv; simpa [refs] using this
    have hzl : zs'.length = zs.length := hp.length_eq
    by_cases hn0 : 0 < n
    · obtain ⟨y, hy⟩ : ∃ y, zs'[(n - 1) / 2]? = some y := ⟨_, List.getElem?_eq_getElem (by omega)⟩
      have hhalf := half_is hn0
      have hx2 : vs'[(((n : Int) - 1).fdiv (2 ^ Int.toNat 1)).toNat]? = some (.ref y.1) := by
        rw [hhalf, Int.toNat_natCast, set_other hv (by omega), hy]; rfl
      w_strict k_steps
      unfold Stop
      k_dflt (refine' HC _ _ _ _ H _ _ ?p1 ?p2 hI' hW' _ _ _ _ _ _ _ _ _ _ _ _ _ _ _ _ _ _ _ _ _ _ ?k1 ?c1 ?c2 ?c3 ?k2 ?k3 ?kI ?k4 ?k5 ?kK ?kd ?ku ?_; (case k1 => k_asm); (case k2 => k_asm); (case k3 => k_asm); (case k4 => k_asm); (case k5 => k_asm); (case kK => first | exact rfl | assumption))
      (case p1 => exact hIt _ (hp.mem_iff.mp (List.mem_of_getElem? hz')))
      (case p2 => exact hIt _ (hp.mem_iff.mp (List.mem_of_getElem? hy)))
      (case c1 => assumption)
      (case c2 => assumption)
      (case c3 => assumption)
      (case kI => first | assumption | exact kiOf (by assumption) (by k_asm) (by k_asm))
      (case kd => dsimp only [ktrTop]; omega)
      (case ku => dsimp only [ktrTop]; omega)
      refine cmp_use ?_
      intro b W2 h2 tk2 F2 N2 hI2 hW2 hb
      dsimp only
      cases b
      · w_strict k_steps
        dsimp only [WStep]
        w_strict k_steps
        exact hret _ _ _ _ (by k_asm) (by k_asm) (kept_ K1' (by k_asm)) ⟨rfl, zs', W2, by rw [← hv]; rfl, hp, hU'.done (.inr fun x y' h1 h2 => by rw [hy] at h1; rw [hz'] at h2; cases h1; cases h2; exact hb), hI2, hW2⟩
      · w_strict k_steps
        dsimp only
        refine' WStep.cont (by k_asm) (by k_asm) (n' := (n - 1) / 2) (by omega) ⟨swL zs' n ((n - 1) / 2) z y, vs'.set n (.ref y.1), W2, ?tt, ?e1, ?e2, ?e3, ?e4, rfl, set_swap hv, by rw [swL_get hz' hy, if_pos rfl], (swL_perm hz' hy).trans hp, UpL.step (pre := preZ pre) (fun a b c h1 h2 => tr a.2 b.2 c.2 h1 h2) hU' hn0 hz' hy hb, hI2, hW2⟩
        case e3 => rw [← hhalf]; rfl
        case e1 => exact e1
        case e2 => exact e2
        case e4 => exact e4
    · w_strict k_steps
      exact hret _ _ _ _ (by k_asm) (by k_asm) (kept_ K1' (by k_asm)) ⟨rfl, zs', W', by rw [← hv]; rfl, hp, hU'.done (.inl (by omega)), hI', hW'⟩
end Mine
end SecbS1
section SecbS2
theorem Mine.offbS2 : True := by
  w_top off
  k_with_none
  trivial
open PySem PySem.W PyProof.Rows PySem.Spec PySem.Calls
set_option maxRecDepth 100000
set_option maxHeartbeats 8000000
namespace Mine
theorem rulesS2 : True := by
  k_with_none
  k_with "call ref" => refine stop ?_
  k_with "exec While Compare" => refine stop ?_
  k_with "exec While" => refine stop ?_
  k_with "compareOp Lt ref ref" => refine stop ?_
  k_with "compareOp Lt ref" => refine stop ?_
  k_with "subscriptTail Name" => (k_here; (refine' kim_list (by k_asm) (by k_mem) (by rfl) (by rfl) (by first | omega | (rw [half_is (by assumption)]; omega)) (by first | omega | (rw [half_is (by assumption)]; omega)) (by assumption) ?_))
  k_with "setItem ref int ref" => (k_here; (refine' setItemK (by k_asm) (by k_asm) (by exact Upd.head (by assumption)) (by omega) (by omega) (by omega) ?_); intro hq9 Fq9 Nq9; (try k_sweep))
  k_with "eval Name" => (k_here; k_dflt (refine' ld (by k_asm) (by first | exact rfl | assumption) ?_; k_whole))
  trivial
theorem lenList {prog : Program} {w : World} {A : Around} {E : Value → Shared → Prop} {s : Shared} {h₀ : Heap} {L l : Addr} {news : List (Addr × Obj)} {vs : List Value} {k n : Nat} {Q : Value → Shared → Prop}
    (N : News h₀ L s.heap news) (hm : (l, listOf vs.toArray n) ∈ news) (hk : vs.length = k) (hz : k < 2 ^ 20) (h : ∀ t tk, Q (.int (k : Int) t) { s with toks := tk }) :
    wpAny (model prog w) A (call (.builtin "len") [.ref l]) Q E s := by
  have e : (List.toArray vs).size = k := by rw [List.size_toArray]; exact hk
  exact call_len_list (PySem.IsL.isList (n := n) (N _ hm).1) (by rw [e]; omega) (by rw [e]; exact h _ _)
theorem rulesS2b : True := by
  k_with "call builtin:len" => refine stop ?_
  trivial
inductive SuJ {ι : Type} (Inv : List (Addr × Obj) → Prop) (pre : ι → ι → Prop) (H : Addr) (c : Nat) (zs : List (Addr × ι)) (z : Addr × ι) (n : Nat) (m₁ : Str → Option Value) (news₁ : List (Addr × Obj))  : Prop
  | mk (k : Nat) (zs' : List (Addr × ι)) (vs' : List Value) (W' : List (Addr × Obj)) (t1 t2 t3 t4 : Tok) (w1 : n = zs.length - k) (w2 : m₁ (Str.ofString "heap") = some (.ref H)) (w3 : m₁ (Str.ofString "endpos") = some (.int (zs.length : Int) t1)) (w4 : m₁ (Str.ofString "startpos") = some (.int 0 t2)) (w5 : m₁ (Str.ofString "pos") = some (.int (k : Int) t3)) (w6 : m₁ (Str.ofString "newitem") = some (.ref z.1)) (w7 : m₁ (Str.ofString "childpos") = some (.int (2 * (k : Int) + 1) t4)) (w8 : news₁ = (H, listOf vs'.toArray c) :: W') (w9 : vs'.set k (.ref z.1) = refs zs') (w10 : zs'[k]? = some z) (w11 : zs'.Perm zs) (w12 : DownL (preZ pre) zs' k) (w13 : Inv W') (w14 : ∀ p ∈ W', p.1 ≠ H)
theorem suj_use {ι : Type} {Inv : List (Addr × Obj) → Prop} {pre : ι → ι → Prop} {H L : Addr} {h₀ : Heap} {c : Nat} {zs : List (Addr × ι)} {z : Addr × ι} {G : Nat → (Str → Option Value) → Heap → Nat → Prop}
    (k : ∀ m₁ h₁ tk₁ (k : Nat) zs' vs' W' t1 t2 t3 t4, Fr h₀ L h₁ m₁ → News h₀ L h₁ ((H, listOf (List.toArray vs') c) :: W') → m₁ (Str.ofString "heap") = some (.ref H) → m₁ (Str.ofString "endpos") = some (.int (zs.length : Int) t1) → m₁ (Str.ofString "startpos") = some (.int 0 t2) → m₁ (Str.ofString "pos") = some (.int (k : Int) t3) → m₁ (Str.ofString "newitem") = some (.ref z.1) → m₁ (Str.ofString "childpos") = some (.int (2 * (k : Int) + 1) t4) →
      vs'.set k (.ref z.1) = refs zs' → zs'[k]? = some z → zs'.Perm zs → DownL (preZ pre) zs' k → Inv W' → (∀ p ∈ W', p.1 ≠ H) → G (zs.length - k) m₁ h₁ tk₁) :
    ∀ n m₁ news₁ h₁ tk₁, Fr h₀ L h₁ m₁ → News h₀ L h₁ news₁ → SuJ Inv pre H c zs z n m₁ news₁ → G n m₁ h₁ tk₁ := by
  rintro n m₁ _ h₁ tk₁ F N ⟨k', zs', vs', W', u1, u2, u3, u4, rfl, e1, e2, e3, e4, e5, e6, rfl, a, b, c, d, e, f⟩
  exact k _ _ _ _ _ _ _ _ _ _ _ F N e1 e2 e3 e4 e5 e6 a b c d e f
theorem siftup {ι : Type} (w : World) (KF : Frag) (Inv : List (Addr × Obj) → Prop) (It : Addr → ι → Prop) (pre : ι → ι → Prop) (d : Nat) (tr : ∀ a b c, pre a b → pre b c → pre a c) (HC : CmpOk w KF Inv It pre d)
    (H : Addr) (c : Nat) (zs : List (Addr × ι)) (W : List (Addr × Obj)) (z : Addr × ι) (t0 : Tok) (hz : zs[0]? = some z) (hD : DownL (preZ pre) zs 0) (hIt : ∀ x ∈ zs, It x.1 x.2) (hlen : zs.length < 2 ^ 20) (hI : Inv W) (hW : ∀ p ∈ W, p.1 ≠ H) :
    CtG w KF (call (.ref 100) [.ref H, .int 0 t0]) (d + 2) ((H, listOf (refs zs).toArray c) :: W) (SiftRet Inv pre H c zs) := by
  have hkl := (List.getElem?_eq_some_iff.mp hz).1
  have hx : (refs zs)[(0 : Int).toNat]? = some (.ref z.1) := by show (refs zs)[0]? = _; simp only [refs, List.getElem?_map, hz]; rfl
  have hle : (refs zs).length = zs.length := by simp [refs]
  unfold CtG; k_fill
  intro p loose mean mg mb dp un gd cn cs a ccd cl outer A₀ base h₀ L m s Q E B C1 C2 C3 F X KIh N T hk hd hu hret
  refine wpAny_call ?_
  k_dflt (refine' codeDefF ?k1 ?k2 ?k3 ?k4 ?k5 ?kA ?kF ?kK ?k6 ?k7 ?k8 ?k9 ?kB ?_ ?c2 ?c3 ?c4 ?c5; (case kA => exact rfl); (case kF => exact rfl); (case kK => assumption); (case k1 => k_asm); (case k2 => k_asm); (case k3 => k_asm); (case k4 => k_asm); (case k5 => k_asm); (case k6 => k_is); (case k7 => k_is); (case k8 => k_room); (case k9 => exact BindsTo.of_eq rfl); (case kB => exact locs rfl); (case c2 => exact rfl); (case c3 => exact rfl); (case c4 => exact rfl); (case c5 => decide); intro g' L' h' FG' F' N' B' X' T' K1'; (try dsimp only); (try k_lift B'); (try k_fold))
  have XK := inOf KIh K1'
  w_strict k_steps
  unfold Stop
  ((refine' lenList ?k1 ?k2 ?k3 ?k4 ?_; (case k1 => k_asm); (case k2 => k_mem); (case k3 => assumption); (case k4 => assumption)); intro t9 tk9)
  w_strict k_steps
  unfold Stop
  refine' whileK (SuJ Inv pre H c zs z) (n₀ := zs.length) (by k_asm) (by k_asm) ⟨0, zs, refs zs, W, ?t1, ?t2, ?t3, ?t4, by simp, ?e1, ?e2, ?e3, ?e4, ?e5, ?e6, rfl, set_same hz, hz, .refl _, hD, hI, hW⟩ ?turn ?hE
  case hE => passes_own
  case e2 => exact rfl
  case e3 => exact rfl
  case e4 => exact rfl
  case e6 => exact rfl
  case e1 => exact rfl
  case e5 => exact rfl
  case turn =>
    refine suj_use ?_
    intro m₁ h₁ tk₁ k' zs' vs' W' u1 u2 u3 u4 F1 N1 e1 e2 e3 e4 e5 e6 hv hz' hp hD' hI' hW'
    have hnl := (List.getElem?_eq_some_iff.mp hz').1
    have hvl : vs'.length = zs'.length := by have := congrArg List.length hv; simpa [refs] using this
    have hzl : zs'.length = zs.length := hp.length_eq
    by_cases hc1 : 2 * k' + 1 < zs.length
    · obtain ⟨y1, hy1⟩ : ∃ y, zs'[2 * k' + 1]? = some y := ⟨_, List.getElem?_eq_getElem (by omega)⟩
      have hx1 : vs'[(2 * (k' : Int) + 1).toNat]? = some (.ref y1.1) := by
        rw [show (2 * (k' : Int) + 1).toNat = 2 * k' + 1 from by omega, set_other hv (by omega), hy1]; rfl
      by_cases hc2 : 2 * k' + 2 < zs.length
      · obtain ⟨y2, hy2⟩ : ∃ y, zs'[2 * k' + 2]? = some y := ⟨_, List.getElem?_eq_getElem (by omega)⟩
        have hx2 : vs'[(2 * (k' : Int) + 1 + 1).toNat]? = some (.ref y2.1) := by
          rw [show (2 * (k' : Int) + 1 + 1).toNat = 2 * k' + 2 from by omega, set_other hv (by omega), hy2]; rfl
        w_strict k_steps
        unfold Stop
        k_dflt (refine' HC _ _ _ _ H _ _ (hIt _ (hp.mem_iff.mp (List.mem_of_getElem? hy1))) (hIt _ (hp.mem_iff.mp (List.mem_of_getElem? hy2))) hI' hW' _ _ _ _ _ _ _ _ _ _ _ _ _ _ _ _ _ _ _ _ _ _ ?k1 ?c1 ?c2 ?c3 ?k2 ?k3 ?kI ?k4 ?k5 ?kK ?kd ?ku ?_; (case k1 => k_asm); (case k2 => k_asm); (case k3 => k_asm); (case k4 => k_asm); (case k5 => k_asm); (case kK => first | exact rfl | assumption))
        (case c1 => assumption)
        (case c2 => assumption)
        (case c3 => assumption)
        (case kI => first | assumption | exact kiOf (by assumption) (by k_asm) (by k_asm))
        (case kd => dsimp only [ktrTop]; omega)
        (case ku => dsimp only [ktrTop]; omega)
        refine cmp_use ?_
        intro b W2 h2 tk2 F2 N2 hI2 hW2 hb
        dsimp only
        cases b
        · w_strict k_steps
          refine' WStep.next (by k_asm) (by k_asm) (n' := zs.length - (2 * k' + 2)) (by omega) ⟨2 * k' + 2, swL zs' k' (2 * k' + 2) z y2, vs'.set k' (.ref y2.1), W2, ?t1x1, ?t2x1, ?t3x1, ?t4x1, rfl, ?e1x1, ?e2x1, ?e3x1, ?e4x1, ?e5x1, ?e6x1, rfl, set_swap hv, by rw [swL_get hz' hy2, if_pos rfl], (swL_perm hz' hy2).trans hp, ?hDx1, (by assumption), (by assumption)⟩
          case e4x1 => rw [show (((2 * k' + 2 : Nat)) : Int) = 2 * (k' : Int) + 1 + 1 from by omega]; rfl
          case e6x1 => rw [show (((2 * k' + 2 : Nat)) : Int) = 2 * (k' : Int) + 1 + 1 from by omega]; rfl
          case e1x1 => exact e1
          case e2x1 => exact e2
          case e3x1 => exact e3
          case e5x1 => exact e5
          case hDx1 => exact hD'.step (.inr rfl) hz' hy2 (fun d' y hd hd2 hy => by
            rcases hd2 with rfl | rfl
            · rw [hy1] at hy; cases hy; exact hb
            · exact absurd rfl hd)
        · w_strict k_steps
          refine' WStep.next (by k_asm) (by k_asm) (n' := zs.length - (2 * k' + 1)) (by omega) ⟨2 * k' + 1, swL zs' k' (2 * k' + 1) z y1, vs'.set k' (.ref y1.1), W2, ?t1x2, ?t2x2, ?t3x2, ?t4x2, rfl, ?e1x2, ?e2x2, ?e3x2, ?e4x2, ?e5x2, ?e6x2, rfl, set_swap hv, by rw [swL_get hz' hy1, if_pos rfl], (swL_perm hz' hy1).trans hp, ?hDx2, (by assumption), (by assumption)⟩
          case e4x2 => rw [show (((2 * k' + 1 : Nat)) : Int) = 2 * (k' : Int) + 1 from by omega]; rfl
          case e6x2 => rw [show (((2 * k' + 1 : Nat)) : Int) = 2 * (k' : Int) + 1 from by omega]; rfl
          case e1x2 => exact e1
          case e2x2 => exact e2
          case e3x2 => exact e3
          case e5x2 => exact e5
          case hDx2 => exact hD'.step (.inl rfl) hz' hy1 (fun d' y hd hd2 hy => by
            rcases hd2 with rfl | rfl
            · exact absurd rfl hd
            · rw [hy2] at hy; cases hy; exact hb)
      · w_strict k_steps
        refine' WStep.next (by k_asm) (by k_asm) (n' := zs.length - (2 * k' + 1)) (by omega) ⟨2 * k' + 1, swL zs' k' (2 * k' + 1) z y1, vs'.set k' (.ref y1.1), W', ?t1x3, ?t2x3, ?t3x3, ?t4x3, rfl, ?e1x3, ?e2x3, ?e3x3, ?e4x3, ?e5x3, ?e6x3, rfl, set_swap hv, by rw [swL_get hz' hy1, if_pos rfl], (swL_perm hz' hy1).trans hp, ?hDx3, (by assumption), (by assumption)⟩
        case e4x3 => rw [show (((2 * k' + 1 : Nat)) : Int) = 2 * (k' : Int) + 1 from by omega]; rfl
        case e6x3 => rw [show (((2 * k' + 1 : Nat)) : Int) = 2 * (k' : Int) + 1 from by omega]; rfl
        case e1x3 => exact e1
        case e2x3 => exact e2
        case e3x3 => exact e3
        case e5x3 => exact e5
        case hDx3 => exact hD'.step (.inl rfl) hz' hy1 (fun d' y hd hd2 hy => by
          rcases hd2 with rfl | rfl
          · exact absurd rfl hd
          · have := (List.getElem?_eq_some_iff.mp hy).1; omega)
    · w_strict k_steps
      have hvr : (vs'.set (k' : Int).toNat (.ref z.1)) = refs zs' := hv
      (with_reducible rename News _ _ _ _ => N7)
      rw [hvr] at N7
      unfold Stop
      k_dflt (refine' siftdown w KF Inv It pre d tr HC H c k' zs' W' z _ _ hz' (hD'.leaf (by omega)) (fun x hx => hIt x (hp.mem_iff.mp hx)) (by omega) hI' hW' _ _ _ _ _ _ _ _ _ _ _ _ _ _ _ _ _ _ _ _ _ _ ?k1 ?c1 ?c2 ?c3 ?k2 ?k3 ?kI ?k4 ?k5 ?kK ?kd ?ku ?_; (case k1 => k_asm); (case k2 => k_asm); (case k3 => k_asm); (case k4 => k_asm); (case k5 => k_asm); (case kK => first | exact rfl | assumption))
      (case c1 => assumption)
      (case c2 => assumption)
      (case c3 => assumption)
      (case kI => first | assumption | exact kiOf (by assumption) (by k_asm) (by k_asm))
      (case kd => dsimp only [ktrTop]; omega)
      (case ku => dsimp only [ktrTop]; omega)
      rintro _ _ h5 tk5 F5 N5 KP5 ⟨rfl, zs5, W5, rfl, hp5, hH5, hI5, hW5⟩
      dsimp only
      w_strict k_steps
      exact hret _ _ _ _ (by k_asm) (by k_asm) (kept_ K1' (by k_asm)) ⟨rfl, zs5, W5, rfl, hp5.trans hp, hH5, hI5, hW5⟩
end Mine
end SecbS2
section SecbS3
theorem Mine.offbS3 : True := by
  w_top off
  k_with_none
  trivial
open PySem PySem.W PyProof.Rows PySem.Spec PySem.Calls
set_option maxRecDepth 100000
set_option maxHeartbeats 8000000
namespace Mine
theorem rulesS3 : True := by
  k_with_none
  k_with "call ref" => refine stop ?_
  k_with "exec While Compare" => refine stop ?_
  k_with "exec While" => refine stop ?_
  k_with "compareOp Lt ref ref" => refine stop ?_
  k_with "compareOp Lt ref" => refine stop ?_
  k_with "subscriptTail Name" => (k_here; (refine' kim_list (by k_asm) (by k_mem) (by rfl) (by rfl) (by first | omega | (rw [half_is (by assumption)]; omega)) (by first | omega | (rw [half_is (by assumption)]; omega)) (by assumption) ?_))
  k_with "setItem ref int ref" => (k_here; (refine' setItemK (by k_asm) (by k_asm) (by exact Upd.head (by assumption)) (by omega) (by omega) (by omega) ?_); intro hq9 Fq9 Nq9; (try k_sweep))
  k_with "eval Name" => (k_here; k_dflt (refine' ld (by k_asm) (by first | exact rfl | assumption) ?_; k_whole))
  k_with "call builtin:len" => refine stop ?_
  trivial
section
variable {prog : Program} {w : World} {A : Around} {E : Value → Shared → Prop} {s : Shared} {h₀ : Heap} {L l D : Addr} {m : Str → Option Value} {news news' : List (Addr × Obj)} {vs : List Value} {n : Nat}
theorem appendK {x : Value} {Q : Value → Shared → Prop} (F : Fr h₀ L s.heap m) (N : News h₀ L s.heap news) (U : Upd D (listOf vs.toArray n) (listOf (vs ++ [x]).toArray (n + 1)) news news') (hz : vs.length < 2 ^ 20)
    (h : ∀ h', Fr h₀ L h' m → News h₀ L h' news' → Q .none { s with heap := h' }) : wpAny (model prog w) A (call (.builtin "list.append") [.ref D, x]) Q E s := by
  rw [← List.push_toArray] at U
  exact append_K F N U h (by rw [List.size_toArray, sizeLine_eq]; omega)
theorem last_snoc (p : List Value) (y : Value) : kl_last (p ++ [y]) = some (p, y) := by
  induction p with
  | nil => rfl
  | cons x r ih => show (match kl_last (r ++ [y]) with | some (p, y) => some (x :: p, y) | none => some ([], x)) = _; rw [ih]
theorem popK {y : Value} {Q : Value → Shared → Prop} (F : Fr h₀ L s.heap m) (N : News h₀ L s.heap news) (U : Upd D (listOf (vs ++ [y]).toArray n) (listOf vs.toArray (n + 1)) news news') (hz : vs.length < 2 ^ 20)
    (h : ∀ h', Fr h₀ L h' m → News h₀ L h' news' → Q y { s with heap := h' }) : wpAny (model prog w) A (call (.builtin "list.pop") [.ref D]) Q E s :=
  kl_pop F N (by show kl_last (vs ++ [y]) = _; exact last_snoc vs y) U (by show (vs ++ [y]).length ≤ sizeLine; rw [List.length_append, List.length_singleton, sizeLine_eq]; omega) h
theorem truthyK {b : Bool} {Q : Bool → Shared → Prop} (N : News h₀ L s.heap news) (hm : (l, listOf vs.toArray n) ∈ news) (hz : vs.length < 2 ^ 20) (hb : (!vs.isEmpty) = b) (h : ∀ tk, Q b { s with toks := tk }) :
    wpAny (model prog w) A (truthy (.ref l)) Q E s := by
  refine wpAny_truthy_list (PySem.IsL.isList (n := n) (N _ hm).1) (by rw [List.size_toArray]; omega) ?_
  rw [show vs.toArray.isEmpty = vs.isEmpty from by simp, hb]
  exact h _
end
theorem rulesS3b : True := by
  k_with "call builtin:list.append" => refine stop ?_
  k_with "call builtin:list.pop" => refine stop ?_
  trivial
abbrev PushRet {ι : Type} (Inv : List (Addr × Obj) → Prop) (pre : ι → ι → Prop) (H : Addr) (c : Nat) (zs : List (Addr × ι)) : Value → List (Addr × Obj) → Prop := fun r news' =>
  r = .none ∧ ∃ zs' W', news' = (H, listOf (refs zs').toArray c) :: W' ∧ zs'.Perm zs ∧ HeapL (preZ pre) zs' ∧ Inv W' ∧ ∀ p ∈ W', p.1 ≠ H
abbrev PopRet {ι : Type} (Inv : List (Addr × Obj) → Prop) (pre : ι → ι → Prop) (H : Addr) (zs : List (Addr × ι)) : Value → List (Addr × Obj) → Prop := fun r news' =>
  ∃ x zs' W' c', r = .ref x.1 ∧ zs[0]? = some x ∧ news' = (H, listOf (refs zs').toArray c') :: W' ∧ (x :: zs').Perm zs ∧ HeapL (preZ pre) zs' ∧ Inv W' ∧ ∀ p ∈ W', p.1 ≠ H
theorem heappush {ι : Type} (w : World) (KF : Frag) (Inv : List (Addr × Obj) → Prop) (It : Addr → ι → Prop) (pre : ι → ι → Prop) (d : Nat) (tr : ∀ a b c, pre a b → pre b c → pre a c) (HC : CmpOk w KF Inv It pre d)
    (H : Addr) (c : Nat) (zs : List (Addr × ι)) (W : List (Addr × Obj)) (z : Addr × ι) (hH : HeapL (preZ pre) zs) (hIt : ∀ x ∈ zs, It x.1 x.2) (hIz : It z.1 z.2) (hlen : zs.length < 2 ^ 19) (hI : Inv W) (hW : ∀ p ∈ W, p.1 ≠ H) :
    CtG w KF (call (.ref 79) [.ref H, .ref z.1]) (d + 2) ((H, listOf (refs zs).toArray c) :: W) (PushRet Inv pre H (c + 1) (zs ++ [z])) := by
  have hle : (refs zs).length < 2 ^ 20 := by simp only [refs, List.length_map]; omega
  have hra : refs zs ++ [.ref z.1] = refs (zs ++ [z]) := by simp [refs]
  have hl1 : (refs zs ++ [Value.ref z.1]).length = zs.length + 1 := by simp [refs]
  have hl2 : zs.length + 1 < 2 ^ 20 := by omega
  have hz' : (zs ++ [z])[zs.length]? = some z := by simp
  have hIa : ∀ x ∈ zs ++ [z], It x.1 x.2 := fun x hx => by
    rcases List.mem_append.mp hx with hx | hx
    · exact hIt x hx
    · rw [List.mem_singleton.mp hx]; exact hIz
  unfold CtG; k_fill
  intro p loose mean mg mb dp un gd cn cs a ccd cl outer A₀ base h₀ L m s Q E B C1 C2 C3 F X KIh N T hk hd hu hret
  refine wpAny_call ?_
  k_dflt (refine' codeDefF ?k1 ?k2 ?k3 ?k4 ?k5 ?kA ?kF ?kK ?k6 ?k7 ?k8 ?k9 ?kB ?_ ?c2 ?c3 ?c4 ?c5; (case kA => exact rfl); (case kF => exact rfl); (case kK => assumption); (case k1 => k_asm); (case k2 => k_asm); (case k3 => k_asm); (case k4 => k_asm); (case k5 => k_asm); (case k6 => k_is); (case k7 => k_is); (case k8 => k_room); (case k9 => exact BindsTo.of_eq rfl); (case kB => exact locs rfl); (case c2 => exact rfl); (case c3 => exact rfl); (case c4 => exact rfl); (case c5 => decide); intro g' L' h' FG' F' N' B' X' T' K1'; (try dsimp only); (try k_lift B'); (try k_fold))
  have XK := inOf KIh K1'
  w_strict k_steps
  unfold Stop
  ((refine' appendK ?F ?N ?U ?z ?_; (case F => k_asm); (case N => k_asm); (case U => exact Upd.head (by assumption)); (case z => assumption)); intro h' F' N'; (try k_sweep))
  w_strict k_steps
  unfold Stop
  ((refine' lenList ?k1 ?k2 ?k3 ?k4 ?_; (case k1 => k_asm); (case k2 => k_mem); (case k3 => assumption); (case k4 => assumption)); intro t9 tk9)
  w_strict k_steps
  (with_reducible rename News _ _ _ _ => N7)
  rw [hra] at N7
  rw [show ((zs.length + 1 : Nat) : Int) - 1 = ((zs.length : Nat) : Int) from by omega]
  unfold Stop
  k_dflt (refine' siftdown w KF Inv It pre d tr HC H (c + 1) zs.length (zs ++ [z]) W z _ _ hz' (UpL.leafPush hH) hIa (by rw [List.length_append, List.length_singleton]; omega) hI hW _ _ _ _ _ _ _ _ _ _ _ _ _ _ _ _ _ _ _ _ _ _ ?k1 ?c1 ?c2 ?c3 ?k2 ?k3 ?kI ?k4 ?k5 ?kK ?kd ?ku ?_; (case k1 => k_asm); (case k2 => k_asm); (case k3 => k_asm); (case k4 => k_asm); (case k5 => k_asm); (case kK => first | exact rfl | assumption))
  (case c1 => assumption)
  (case c2 => assumption)
  (case c3 => assumption)
  (case kI => exact kiOf (by assumption) (by k_asm) (by k_asm))
  (case kd => dsimp only [ktrTop]; omega)
  (case ku => dsimp only [ktrTop]; omega)
  rintro _ _ h5 tk5 F5 N5 KP5 ⟨rfl, zs5, W5, rfl, hp5, hH5, hI5, hW5⟩
  dsimp only
  w_strict k_steps
  exact hret _ _ _ _ (by k_asm) (by k_asm) (kept_ K1' (by k_asm)) ⟨rfl, zs5, W5, rfl, hp5, hH5, hI5, hW5⟩
theorem heappop {ι : Type} (w : World) (KF : Frag) (Inv : List (Addr × Obj) → Prop) (It : Addr → ι → Prop) (pre : ι → ι → Prop) (d : Nat) (tr : ∀ a b c, pre a b → pre b c → pre a c) (HC : CmpOk w KF Inv It pre d)
    (H : Addr) (c : Nat) (zs : List (Addr × ι)) (W : List (Addr × Obj)) (hH : HeapL (preZ pre) zs) (hIt : ∀ x ∈ zs, It x.1 x.2) (hne : zs ≠ []) (hlen : zs.length < 2 ^ 19) (hI : Inv W) (hW : ∀ p ∈ W, p.1 ≠ H) :
    CtG w KF (call (.ref 86) [.ref H]) (d + 3) ((H, listOf (refs zs).toArray c) :: W) (PopRet Inv pre H zs) := by
  obtain ⟨ys, y, rfl⟩ : ∃ ys y, zs = ys ++ [y] := ⟨zs.dropLast, zs.getLast hne, (List.dropLast_concat_getLast hne).symm⟩
  rw [List.length_append, List.length_singleton] at hlen
  have hle : (refs ys).length < 2 ^ 20 := by simp only [refs, List.length_map]; omega
  have hra : refs (ys ++ [y]) = refs ys ++ [.ref y.1] := by simp [refs]
  rw [hra]
  unfold CtG; k_fill
  intro p loose mean mg mb dp un gd cn cs a ccd cl outer A₀ base h₀ L m s Q E B C1 C2 C3 F X KIh N T hk hd hu hret
  refine wpAny_call ?_
  k_dflt (refine' codeDefF ?k1 ?k2 ?k3 ?k4 ?k5 ?kA ?kF ?kK ?k6 ?k7 ?k8 ?k9 ?kB ?_ ?c2 ?c3 ?c4 ?c5; (case kA => exact rfl); (case kF => exact rfl); (case kK => assumption); (case k1 => k_asm); (case k2 => k_asm); (case k3 => k_asm); (case k4 => k_asm); (case k5 => k_asm); (case k6 => k_is); (case k7 => k_is); (case k8 => k_room); (case k9 => exact BindsTo.of_eq rfl); (case kB => exact locs rfl); (case c2 => exact rfl); (case c3 => exact rfl); (case c4 => exact rfl); (case c5 => decide); intro g' L' h' FG' F' N' B' X' T' K1'; (try dsimp only); (try k_lift B'); (try k_fold))
  have XK := inOf KIh K1'
  by_cases hy : ys = []
  · subst hy
    have hb : (!(refs ([] : List (Addr × ι))).isEmpty) = false := rfl
    w_strict k_steps
    unfold Stop
    ((refine' popK ?F ?N ?U ?z ?_; (case F => k_asm); (case N => k_asm); (case U => exact Upd.head (by assumption)); (case z => assumption)); intro h' F' N'; (try k_sweep))
    w_strict k_steps
    exact hret _ _ _ _ (by k_asm) (by k_asm) (kept_ K1' (by k_asm)) ⟨y, [], W, _, rfl, rfl, rfl, .refl _, (fun i x y' _ h1 => by simp at h1), hI, hW⟩
  · obtain ⟨r, ys', rfl⟩ : ∃ r ys', ys = r :: ys' := by cases ys with | nil => exact absurd rfl hy | cons r q => exact ⟨r, q, rfl⟩
    have hb : (!(refs (r :: ys')).isEmpty) = true := rfl
    have hx0 : (refs (r :: ys'))[(0 : Int).toNat]? = some (.ref r.1) := rfl
    w_strict k_steps
    unfold Stop
    ((refine' popK ?F ?N ?U ?z ?_; (case F => k_asm); (case N => k_asm); (case U => exact Upd.head (by assumption)); (case z => assumption)); intro h' F' N'; (try k_sweep))
    w_strict k_steps
    (with_reducible rename News _ _ _ _ => N7)
    replace N7 : News _ _ _ ((H, listOf (refs (y :: ys')).toArray (c + 1)) :: W) := N7
    have hD := DownL.ofPop (pre := preZ pre) hH rfl hy
    have hIa : ∀ x ∈ y :: ys', It x.1 x.2 := fun x hx => hIt x (by simp only [List.mem_cons, List.mem_append] at hx ⊢; rcases hx with rfl | hx <;> simp_all)
    unfold Stop
    k_dflt (refine' siftup w KF Inv It pre d tr HC H (c + 1) (y :: ys') W y _ rfl hD hIa (by simp only [List.length_cons] at hlen ⊢; omega) hI hW _ _ _ _ _ _ _ _ _ _ _ _ _ _ _ _ _ _ _ _ _ _ ?k1 ?c1 ?c2 ?c3 ?k2 ?k3 ?kI ?k4 ?k5 ?kK ?kd ?ku ?_; (case k1 => k_asm); (case k2 => k_asm); (case k3 => k_asm); (case k4 => k_asm); (case k5 => k_asm); (case kK => first | exact rfl | assumption))
    (case c1 => assumption)
    (case c2 => assumption)
    (case c3 => assumption)
    (case kI => exact kiOf (by assumption) (by k_asm) (by k_asm))
    (case kd => dsimp only [ktrTop]; omega)
    (case ku => dsimp only [ktrTop]; omega)
    rintro _ _ h5 tk5 F5 N5 KP5 ⟨rfl, zs5, W5, rfl, hp5, hH5, hI5, hW5⟩
    dsimp only
    w_strict k_steps
    exact hret _ _ _ _ (by k_asm) (by k_asm) (kept_ K1' (by k_asm)) ⟨r, zs5, W5, _, rfl, rfl, rfl, (hp5.cons r).trans (.cons r (List.perm_append_comm (l₁ := [y]))), hH5, hI5, hW5⟩
end Mine
end SecbS3
section SecbTL
theorem Mine.offbTL : True := by
  w_top off
  k_with_none
  trivial
open PySem PySem.W PyProof.Rows PySem.Spec PySem.Calls
set_option maxRecDepth 100000
set_option maxHeartbeats 8000000
namespace Mine
abbrev tupO (xs : Array Value) : Obj := { cls := .type "tuple", data := .seq xs }
section
variable {prog : Program} {w : World} {A : Around} {E : Value → Shared → Prop} {s : Shared} {Q : Value → Shared → Prop}
end
end Mine
end SecbTL
section SecbK1
theorem Mine.offbK1 : True := by
  w_top off
  k_with_none
  trivial
open PySem PySem.W PyProof.Rows PySem.Spec PySem.Calls
set_option maxRecDepth 100000
set_option maxHeartbeats 8000000
namespace Mine
noncomputable def clsBody (P : Params) : List Stmt := match (hd2.heap_39 P).lookup 63 with
  | some ⟨_, _, .func fd, _⟩ => (match fd.body with | .stmts (.ClassDef _ _ _ b _ _ _ _ _ _ _ :: _) => b | _ => [])
  | _ => []
noncomputable def fnAt (P : Params) (i : Nat) : Option (Arguments × List Stmt × Scope) := match (clsBody P)[i]? with
  | some (.FunctionDef _ a b _ _ _ s _ _ _) => some (a, b, s)
  | _ => none
theorem explUse {P : Params} {G : Prop} {oc : Value} {od : Option Addr} {nm ql : Str} {ps : Arguments} {c1 c8 : Str} {c2 : List Expr} {c3 : List Keyword} {B : List Stmt} {c4 : List Expr} {c5 : List TypeParam} {c6 : Scope} {c7 : Option Scope} {c9 : List Str} {c10 : Pos} {rr : List Stmt} {sc : Scope} {dV kV doc pm cdv ct : Value} {an : Option Addr} {osl : Array (Option Value)}
    (h : (hd2.heap_39 P).lookup 63 = some ⟨oc, od, .func (fnOf nm ql ps (.ClassDef c1 c2 c3 B c4 c5 c6 c7 c8 c9 c10 :: rr) sc dV kV doc pm an cdv ct), osl⟩) (k : clsBody P = B → G) : G :=
  k (by unfold clsBody; rw [h])
theorem fnAtEq {P : Params} {B : List Stmt} {i : Nat} {a a' : Arguments} {b b' : List Stmt} {sc s' : Scope} {n v : Str} {d : List Expr} {r : Option Expr} {t : List TypeParam} {u : Option Scope} {p : Pos} (h : fnAt P i = some (a, b, sc)) (hB : clsBody P = B) (hg : B[i]? = some (.FunctionDef n a' b' d r t s' u v p)) : a = a' ∧ b = b' ∧ sc = s' := by
  unfold fnAt at h
  rw [hB, hg] at h
  cases h
  exact ⟨rfl, rfl, rfl⟩
structure FnIs (P : Params) (KF : Frag) (f : Addr) (i : Nat) (cel : Addr) (a : Arguments) (b : List Stmt) (sc : Scope) (nm q : Str) (doc pm cdv ct oc : Value) (od : Option Addr) (osl : Array (Option Value)) : Prop where
  ast : fnAt P i = some (a, b, sc)
  obj : KF.lookup f = some ⟨oc, od, .func (fnX nm q a b sc [(Str.ofString "mycmp", cel)] .none .none doc pm none cdv ct), osl⟩
  code : codeIn KF cdv q = true
structure FnI0 (P : Params) (KF : Frag) (f : Addr) (i : Nat) (a : Arguments) (b : List Stmt) (sc : Scope) (nm q : Str) (doc pm cdv ct oc : Value) (od : Option Addr) (osl : Array (Option Value)) : Prop where
  ast : fnAt P i = some (a, b, sc)
  obj : KF.lookup f = some ⟨oc, od, .func (fnX nm q a b sc [] .none .none doc pm none cdv ct), osl⟩
  code : codeIn KF cdv q = true
structure KC (P : Params) (KF : Frag) (C d fI fL fE cel fm : Addr) : Prop where
  made : makesIn KF C = true
  keep : keepIn KF (.ref C) = true
  init : findIn KF (.ref C) "__init__" = some (some (.ref fI))
  initF : isFn KF (.ref fI) = true
  lt : findIn KF (.ref C) (cmpInfo .Lt).2.1 = some (some (.ref fL))
  ltF : isFn KF (.ref fL) = true
  eq : findIn KF (.ref C) (cmpInfo .Eq).2.1 = some (some (.ref fE))
  eqF : isFn KF (.ref fE) = true
  pg : plainGet KF C (Str.ofString "obj") = true
  ic : isClsIn KF C = true
  fo : findIn KF (.ref C) (Str.ofString "obj") = some (some (.ref d))
  sg : specialIn KF (.ref d) "__get__" = some (some (.builtin "member_descriptor.__get__"))
  tk : takesIn KF (.ref d) = some true
  sl : slotIn KF d C = some 0
  sa : findIn KF (.ref C) "__setattr__" = some (some (.builtin "object.__setattr__"))
  po : plainOver KF C = true
  ta : takerIn KF C (Str.ofString "obj") = some (some (.ref d))
  ty : typeIn KF (.ref d) = some (.type "member_descriptor")
  cell : KF.lookup cel = some ⟨.type "cell", none, .cell (some (.ref fm)), #[]⟩
  fnI : ∃ a b sc nm q doc pm cdv ct oc od osl, FnI0 P KF fI 2 a b sc nm q doc pm cdv ct oc od osl
  fnL : ∃ a b sc nm q doc pm cdv ct oc od osl, FnIs P KF fL 3 cel a b sc nm q doc pm cdv ct oc od osl
  fnE : ∃ a b sc nm q doc pm cdv ct oc od osl, FnIs P KF fE 5 cel a b sc nm q doc pm cdv ct oc od osl
abbrev keyO (C dx : Addr) (v : Value) : Obj := { cls := .ref C, dict := some dx, data := .plain, slots := #[some v] }
def KeyIn (G : Frag) (C k : Addr) (v : Value) : Prop := ∃ dx, G.lookup k = some (keyO C dx v) ∧ G.lookup dx = some emptyDict
abbrev Sub (KF G : Frag) : Prop := ∀ b o, KF.lookup b = some o → G.lookup b = some o
def MyOk {ι : Type} (w : World) (G : Frag) (fm : Addr) (Inv : List (Addr × Obj) → Prop) (val : Value → ι → Prop) (sg : ι → ι → Int → Prop) (d : Nat) : Prop :=
  ∀ v1 a1 v2 a2 H o W, val v1 a1 → val v2 a2 → Inv W → (∀ p ∈ W, p.1 ≠ H) → CtG w G (call (.ref fm) [v1, v2]) d ((H, o) :: W) (fun r news' => ∃ c t W', r = .int c t ∧ news' = (H, o) :: W' ∧ Inv W' ∧ (∀ p ∈ W', p.1 ≠ H) ∧ sg a1 a2 c)
theorem callF {prog : Program} {w : World} {A₀ A : Around} {s : Shared} {base h₀ : Heap} {outer : List Env} {L : Addr} {m : Str → Option Value} {env : Env} {news : List (Addr × Obj)} {R : Result → Shared → Prop} {K : Frag} {p : Program} {loose : List Str} {mean : ExcName → Option Value} {mg mb : Str → Option Value}
    {name qual : Str} {params : Arguments} {body : List Stmt} {scope : Scope} {cl : List (Str × Addr)} {dV kV doc pm cdv ct oc : Value} {an od : Option Addr} {osl : Array (Option Value)} {f : Addr} {args : Args} {binds : List (Str × Value)}
    (B : Below A₀ base outer h₀) (F : Fr h₀ L s.heap m) (X₀ : K.In h₀) (N : News h₀ L s.heap news) (T : Top p loose mean mg mb h₀) (hA : A.frames = some (env :: outer)) (hf : env.frame = some L) (hke : env.scope.kind = .function)
    (ho : s.heap.get? f = some ⟨oc, od, .func (fnX name qual params body scope cl dV kV doc pm an cdv ct), osl⟩) (hcd : s.heap.CodeRec cdv qual) (hroom : A.depth < recursionLimit)
    (hbind : BindsTo s (fnX name qual params body scope cl dV kV doc pm an cdv ct) args binds) (hloc : ∀ y ∈ binds, scope.names.lookup y.1 = some .local)
    (h : ∀ g L' h₁, Fr h₀ L g m → Fr g L' h₁ (fun y => binds.reverse.lookup y) → News g L' h₁ news → Below A base (env :: outer) g → K.In g → Top p loose mean mg mb g → Kept s.heap news g →
      wpAny (model prog w) (A.deeper (envX qual scope L' f cdv cl)) (execs body (envX qual scope L' f cdv cl))
        (fun fl s' => LeaveK h₀ L m g R (match fl with | .ret v => v | _ => .none) s')
        (fun e s' => wpAny (model prog w) (A.deeper (envX qual scope L' f cdv cl)) (leaving (envX qual scope L' f cdv cl) e) (fun _ s'' => R (.error e) s'') (fun e' s'' => R (.error e') s'') s')
        { s with heap := h₁, toks := s.toks + binds.length })
    (hco : scope.isCoroutine = false) (hgen : scope.isGenerator = false) (hk : scope.kind = .function)
    (hcell : ∀ x ∈ scope.names, x.2 ≠ .cell) : codeAny (model prog w) A (.call (.ref f) args) R s := by
  obtain ⟨FG, BG, st, lv⟩ := groundX (R := R) B F N hA hf hke
  refine codeAny_call_def (fd := fnX name qual params body scope cl dV kV doc pm an cdv ct) (body := body) (binds := binds) hroom ho rfl (T.nolimit.keeps F.keep) hcd rfl hbind hcell hloc (fun h₁ hns hk₁ => ?_) hco hgen hk
  exact wpAny_mono (h _ s.heap.objs.size h₁ FG ⟨hns, fun b o e => hk₁ b o (of_hideAll _ e), Nat.le_of_eq (hideAll_size _ _)⟩
    (fun p hp => ⟨hk₁ _ _ (N p hp).1, Nat.ne_of_lt (Heap.lt_size (N p hp).1), hideAll_none _ (List.mem_map_of_mem hp)⟩) BG (X₀.keeps st) (T.keeps st)
    (fun b o e ne => hideAll_get _ e fun q => by obtain ⟨p, hp, q⟩ := List.mem_map.mp q; exact ne p hp q)) (fun fl s' hl => lv _ _ hl) fun _ _ y => y
theorem instOf {G : Frag} {h : Heap} {C k dx : Addr} {v : Value} (X : InW G h) (h1 : G.lookup k = some (keyO C dx v)) (h2 : G.lookup dx = some emptyDict) : InstAt h k (keyO C dx v) C (some emptyDict) := ⟨X _ _ h1, rfl, rfl, X _ _ h2⟩
theorem inW_keeps {G : Frag} {g h : Heap} {L : Addr} {m : Str → Option Value} (X : InW G g) (F : Fr g L h m) : InW G h := fun b o e => F.keep b o (X b o e)
theorem freeK {prog : Program} {w : World} {A : Around} {E : Value → Shared → Prop} {s : Shared} {L a : Addr} {cn : Str} {cs : Scope} {ccd : Value} {cl : List (Str × Addr)} {x : Str} {pos : Pos} {c : Addr} {o : Obj} {v : Value} {Q : Value → Shared → Prop}
    (hk : cs.kind = .function) (hx : (envX cn cs L a ccd cl).kindOf x = some .free) (hc : cl.lookup x = some c) (ho : s.heap.get? c = some o) (hd : o.data = .cell (some v)) (h : Q v s)
    (hb : (x == ("__debug__" : Str)) = false := by decide) (hn : (x == ("__classdict__" : Str)) = false := by decide) :
    wpAny (model prog w) A (eval (.Name x pos) (envX cn cs L a ccd cl)) Q E s := wpAny_Name (wpAny_loadName_free hk hx hc ⟨o, ho, hd⟩ h hn) hb
theorem nmL {prog : Program} {w : World} {A : Around} {E : Value → Shared → Prop} {s : Shared} {h₀ : Heap} {m : Str → Option Value} {L a : Addr} {cn : Str} {cs : Scope} {ccd : Value} {cl : List (Str × Addr)} {x : Str} {pos : Pos} {v : Value} {Q : Value → Shared → Prop}
    (F : Fr h₀ L s.heap m) (hk : cs.kind = .function) (hx : (envX cn cs L a ccd cl).kindOf x = some .local) (hv : m x = some v) (h : Q v s) (hd : (x == ("__debug__" : Str)) = false := by decide) :
    wpAny (model prog w) A (eval (.Name x pos) (envX cn cs L a ccd cl)) Q E s := nameX_L F hv h hk hx hd
end Mine
end SecbK1
section SecbK2
theorem Mine.offbK2 : True := by
  w_top off
  k_with_none
  trivial
open PySem PySem.W PyProof.Rows PySem.Spec PySem.Calls
set_option maxRecDepth 100000
set_option maxHeartbeats 8000000
namespace Mine
theorem rulesK2 : True := by
  k_with_none
  k_with "call ref" => refine stop ?_
  k_with "getAttr ref" => refine stop ?_
  k_with "eval Name" => (k_here; k_dflt (refine' freeK (by rfl) (by rfl) (by rfl) (by exact inW_keeps (by assumption) (by k_asm) _ _ (by assumption)) (by rfl) ?_; k_whole))
  trivial
theorem kLt {ι : Type} (w : World) (KF G : Frag) (C d fI fL fE cel : Addr) (kc : KC w.params KF C d fI fL fE cel 107) (sub : Sub KF G) (Inv : List (Addr × Obj) → Prop) (val : Value → ι → Prop) (sg : ι → ι → Int → Prop) (dm : Nat) (HM : MyOk w G 107 Inv val sg dm)
    (k1 k2 : Addr) (v1 v2 : Value) (a1 a2 : ι) (H : Addr) (o : Obj) (W : List (Addr × Obj)) (hk1 : KeyIn G C k1 v1) (hk2 : KeyIn G C k2 v2) (hv1 : val v1 a1) (hv2 : val v2 a2) (hh1 : handedIn v1 = true) (hh2 : handedIn v2 = true) (hI : Inv W) (hW : ∀ p ∈ W, p.1 ≠ H) :
    CtG w G (call (.ref fL) [.ref k1, .ref k2]) (dm + 1) ((H, o) :: W) (fun r news' => ∃ c W', r = .bool (decide (c < 0)) ∧ sg a1 a2 c ∧ news' = (H, o) :: W' ∧ Inv W' ∧ ∀ p ∈ W', p.1 ≠ H) := by
  obtain ⟨a, b, sc, nm, q, doc, pm, cdv, ct, oc, od, osl, hast, hobj, hcode⟩ := kc.fnL
  have hcl := sub _ _ kc.cell
  obtain ⟨dx1, hk1, hd1⟩ := hk1
  obtain ⟨dx2, hk2, hd2⟩ := hk2
  unfold CtG; k_fill
  refine' explUse (P := w.params) ?h ?_
  case h => k_is
  intro hB
  obtain ⟨rfl, rfl, rfl⟩ := fnAtEq hast hB rfl
  clear hB hast
  intro p loose mean mg mb dp un gd cn cs a ccd cl outer A₀ base h₀ L m s Q E B C1 C2 C3 F X KIh N T hk hd hu hret
  refine wpAny_call ?_
  have hXs : InW G s.heap := fun b o e => (KIh b o e).1
  k_dflt (refine' callF ?k1 ?k2 ?k3 ?k4 ?k5 ?kA ?kF ?kK (hXs _ _ (sub _ _ hobj)) (codeRec_of (K := KF) (fun b o e => hXs b o (sub b o e)) hcode) ?k8 ?k9 ?kB ?_ ?c2 ?c3 ?c4 ?c5; (case kA => exact rfl); (case kF => exact rfl); (case kK => assumption); (case k1 => k_asm); (case k2 => k_asm); (case k3 => k_asm); (case k4 => k_asm); (case k5 => k_asm); (case k8 => k_room); (case k9 => exact BindsTo.of_eq rfl); (case kB => exact locs rfl); (case c2 => exact rfl); (case c3 => exact rfl); (case c4 => exact rfl); (case c5 => decide); intro g' L' h' FG' F' N' B' X' T' K1'; (try dsimp only); (try k_lift B'); (try k_fold))
  have XK := inOf KIh K1'
  w_strict k_steps
  unfold Stop
  have XF : InW KF g' := fun b o e => XK b o (sub b o e)
  refine get_slot (K := KF) F' XF (instOf (inW_keeps XK F') hk1 hd1) kc.pg kc.ic kc.fo kc.sg kc.tk kc.sl rfl hh1 ?_
  w_strict k_steps
  unfold Stop
  refine get_slot (K := KF) F' XF (instOf (inW_keeps XK F') hk2 hd2) kc.pg kc.ic kc.fo kc.sg kc.tk kc.sl rfl hh2 ?_
  w_strict k_steps
  unfold Stop
  k_dflt (refine' HM v1 a1 v2 a2 H o W hv1 hv2 hI hW _ _ _ _ _ _ _ _ _ _ _ _ _ _ _ _ _ _ _ _ _ _ ?k1 ?c1 ?c2 ?c3 ?k2 ?k3 ?kI ?k4 ?k5 ?kK ?kd ?ku ?_; (case k1 => k_asm); (case k2 => k_asm); (case k3 => k_asm); (case k4 => k_asm); (case k5 => k_asm); (case kK => first | exact rfl | assumption))
  (case c1 => assumption)
  (case c2 => assumption)
  (case c3 => assumption)
  (case kI => exact kiOf (by assumption) (by k_asm) (by k_asm))
  (case kd => dsimp only [ktrTop]; omega)
  (case ku => dsimp only [ktrTop]; omega)
  rintro _ _ h2 tk2 F2 N2 KP2 ⟨c, t, W2, rfl, rfl, hI2, hW2, hs2⟩
  dsimp only
  w_strict k_steps
  exact hret _ _ _ _ (by k_asm) (by k_asm) (kept_ K1' (by k_asm)) ⟨c, W2, rfl, hs2, rfl, hI2, hW2⟩
theorem kEq {ι : Type} (w : World) (KF G : Frag) (C d fI fL fE cel : Addr) (kc : KC w.params KF C d fI fL fE cel 107) (sub : Sub KF G) (Inv : List (Addr × Obj) → Prop) (val : Value → ι → Prop) (sg : ι → ι → Int → Prop) (dm : Nat) (HM : MyOk w G 107 Inv val sg dm)
    (k1 k2 : Addr) (v1 v2 : Value) (a1 a2 : ι) (H : Addr) (o : Obj) (W : List (Addr × Obj)) (hk1 : KeyIn G C k1 v1) (hk2 : KeyIn G C k2 v2) (hv1 : val v1 a1) (hv2 : val v2 a2) (hh1 : handedIn v1 = true) (hh2 : handedIn v2 = true) (hI : Inv W) (hW : ∀ p ∈ W, p.1 ≠ H) :
    CtG w G (call (.ref fE) [.ref k1, .ref k2]) (dm + 1) ((H, o) :: W) (fun r news' => ∃ c W', r = .bool (decide (c = 0)) ∧ sg a1 a2 c ∧ news' = (H, o) :: W' ∧ Inv W' ∧ ∀ p ∈ W', p.1 ≠ H) := by
  obtain ⟨a, b, sc, nm, q, doc, pm, cdv, ct, oc, od, osl, hast, hobj, hcode⟩ := kc.fnE
  have hcl := sub _ _ kc.cell
  obtain ⟨dx1, hk1, hd1⟩ := hk1
  obtain ⟨dx2, hk2, hd2⟩ := hk2
  unfold CtG; k_fill
  refine' explUse (P := w.params) ?h ?_
  case h => k_is
  intro hB
  obtain ⟨rfl, rfl, rfl⟩ := fnAtEq hast hB rfl
  clear hB hast
  intro p loose mean mg mb dp un gd cn cs a ccd cl outer A₀ base h₀ L m s Q E B C1 C2 C3 F X KIh N T hk hd hu hret
  refine wpAny_call ?_
  have hXs : InW G s.heap := fun b o e => (KIh b o e).1
  k_dflt (refine' callF ?k1 ?k2 ?k3 ?k4 ?k5 ?kA ?kF ?kK (hXs _ _ (sub _ _ hobj)) (codeRec_of (K := KF) (fun b o e => hXs b o (sub b o e)) hcode) ?k8 ?k9 ?kB ?_ ?c2 ?c3 ?c4 ?c5; (case kA => exact rfl); (case kF => exact rfl); (case kK => assumption); (case k1 => k_asm); (case k2 => k_asm); (case k3 => k_asm); (case k4 => k_asm); (case k5 => k_asm); (case k8 => k_room); (case k9 => exact BindsTo.of_eq rfl); (case kB => exact locs rfl); (case c2 => exact rfl); (case c3 => exact rfl); (case c4 => exact rfl); (case c5 => decide); intro g' L' h' FG' F' N' B' X' T' K1'; (try dsimp only); (try k_lift B'); (try k_fold))
  have XK := inOf KIh K1'
  w_strict k_steps
  unfold Stop
  have XF : InW KF g' := fun b o e => XK b o (sub b o e)
  refine get_slot (K := KF) F' XF (instOf (inW_keeps XK F') hk1 hd1) kc.pg kc.ic kc.fo kc.sg kc.tk kc.sl rfl hh1 ?_
  w_strict k_steps
  unfold Stop
  refine get_slot (K := KF) F' XF (instOf (inW_keeps XK F') hk2 hd2) kc.pg kc.ic kc.fo kc.sg kc.tk kc.sl rfl hh2 ?_
  w_strict k_steps
  unfold Stop
  k_dflt (refine' HM v1 a1 v2 a2 H o W hv1 hv2 hI hW _ _ _ _ _ _ _ _ _ _ _ _ _ _ _ _ _ _ _ _ _ _ ?k1 ?c1 ?c2 ?c3 ?k2 ?k3 ?kI ?k4 ?k5 ?kK ?kd ?ku ?_; (case k1 => k_asm); (case k2 => k_asm); (case k3 => k_asm); (case k4 => k_asm); (case k5 => k_asm); (case kK => first | exact rfl | assumption))
  (case c1 => assumption)
  (case c2 => assumption)
  (case c3 => assumption)
  (case kI => exact kiOf (by assumption) (by k_asm) (by k_asm))
  (case kd => dsimp only [ktrTop]; omega)
  (case ku => dsimp only [ktrTop]; omega)
  rintro _ _ h2 tk2 F2 N2 KP2 ⟨c, t, W2, rfl, rfl, hI2, hW2, hs2⟩
  dsimp only
  w_strict k_steps
  exact hret _ _ _ _ (by k_asm) (by k_asm) (kept_ K1' (by k_asm)) ⟨c, W2, rfl, hs2, rfl, hI2, hW2⟩
end Mine
end SecbK2
section SecbK4
theorem Mine.offbK4 : True := by
  w_top off
  k_with_none
  trivial
open PySem PySem.W PyProof.Rows PySem.Spec PySem.Calls
set_option maxRecDepth 100000
set_option maxHeartbeats 2000000
namespace Mine
theorem rulesK4 : True := by
  k_with_none
  k_with "setAttr ref" => refine stop ?_
  trivial
theorem keyK (w : World) (KF G : Frag) (C d fI fL fE cel fm : Addr) (kc : KC w.params KF C d fI fL fE cel fm) (sub : Sub KF G) (v : Value) (news : List (Addr × Obj)) :
    ∀ (p : Program) (loose : List Str) (mean : ExcName → Option Value) (mg mb : Str → Option Value) (dp un : Nat) (gd : Option (List Code)) (cn : Str) (cs : Scope) (a : Addr) (ccd : Value) (cl : List (Str × Addr)) (outer : List Env) (A₀ : Around) (base h₀ : Heap) (L : Addr) (m : Str → Option Value) (s : Shared) (Q E : Value → Shared → Prop),
    Below A₀ base outer h₀ → CodeHd base 34 30 → CodeHd base 41 37 → CodeHd base 62 58 → Fr h₀ L s.heap m → (hd2.heap_39 w.params).In h₀ → KI G s.heap news → News h₀ L s.heap news → Top p loose mean mg mb h₀ → cs.kind = .function → dp + 4 < recursionLimit → un + 8 * 4 < cLine →
    (∀ x dx h' tk', Fr h₀ L h' m → News h₀ L h' ((x, keyO C dx v) :: (dx, emptyDict) :: news) → Kept s.heap news h' → (∀ b o, s.heap.get? b = some o → b < dx) → dx < x → Q (.ref x) { s with heap := h', toks := tk' }) →
    wpAny (model PySem.Challenge.rw_nq0126_02.row.prog w) (ktrTop dp un gd cn cs L a ccd cl outer) (call (.ref C) [v]) Q E s := by
  obtain ⟨a, b, sc, nm, q, doc, pm, cdv, ct, oc, od, osl, hast, hobj, hcode⟩ := kc.fnI
  k_fill
  refine' explUse (P := w.params) ?h ?_
  case h => k_is
  intro hB
  obtain ⟨rfl, rfl, rfl⟩ := fnAtEq hast hB rfl
  clear hB hast
  intro p loose mean mg mb dp un gd cn cs a ccd cl outer A₀ base h₀ L m s Q E B C1 C2 C3 F X KIh N T hk hd hu hret
  have hrl : recursionLimit = 1000 := rfl
  have hXs : InW G s.heap := fun b o e => (KIh b o e).1
  obtain ⟨hh, g0, d0, tk0, os0⟩ := s
  dsimp only at F N KIh hret hXs
  have hXF : KF.In hh := fun b o e => hXs b o (sub b o e)
  refine wpAny_call (make_core (makes_of hXF kc.made) (looks_findIn hXF kc.init) (fun self => bind_fn hXF self (beq_iff_eq.mp kc.initF)) (.inl rfl) ?_)
  have F1 := (F.push emptyDict).push (instObj C hh.objs.size)
  have N1 := (N.push F emptyDict).push (F.push _) (instObj C hh.objs.size)
  rw [Heap.size_push] at N1
  have up : ∀ b o, hh.get? b = some o → ((hh.push emptyDict).push (instObj C hh.objs.size)).get? b = some o ∧ b ≠ hh.objs.size + 1 ∧ b ≠ hh.objs.size := fun b o e =>
    ⟨Heap.get?_push_of_some _ (Heap.get?_push_of_some _ e), Nat.ne_of_lt (Nat.lt_succ_of_lt (Heap.lt_size e)), Nat.ne_of_lt (Heap.lt_size e)⟩
  have hdx : ∀ p ∈ news, p.1 < hh.objs.size := fun p hp => Heap.lt_size (N p hp).1
  have hsz : ∀ b o, hh.get? b = some o → b < hh.objs.size := fun b o e => Heap.lt_size e
  generalize hh1 : (hh.push emptyDict).push (instObj C hh.objs.size) = h1 at F1 N1 up ⊢
  have hX0 : hh.objs.size + 1 ≠ hh.objs.size := by omega
  generalize hxx : hh.objs.size + 1 = x at N1 up hX0 ⊢
  have hxd : hh.objs.size < x := by omega
  generalize hdd : hh.objs.size = dx at F1 N1 up hdx hxd hX0 hsz ⊢
  have KI1 : KI G h1 ((x, instObj C dx) :: (dx, emptyDict) :: news) := fun b o e => ⟨(up b o (KIh b o e).1).1, fun p hp => by
    rcases List.mem_cons.mp hp with rfl | hp
    · exact Ne.symm (up b o (KIh b o e).1).2.1
    · rcases List.mem_cons.mp hp with rfl | hp
      · exact Ne.symm (up b o (KIh b o e).1).2.2
      · exact (KIh b o e).2 p hp⟩
  have hX1 : InW G h1 := fun b o e => (KI1 b o e).1
  refine' callF (s := ⟨h1, g0, d0, tk0, os0⟩) B F1 X N1 T ?kA ?kF ?kK (hX1 _ _ (sub _ _ hobj)) (codeRec_of (K := KF) (fun b o e => hX1 b o (sub b o e)) hcode) ?k8 ?k9 ?kB ?_ ?c2 ?c3 ?c4 ?c5
  case kA => exact rfl
  case kF => exact rfl
  case kK => assumption
  case k8 => show dp + 1 < recursionLimit; omega
  case k9 => exact BindsTo.of_eq rfl
  case kB => exact locs rfl
  case c2 => exact rfl
  case c3 => exact rfl
  case c4 => exact rfl
  case c5 => decide
  intro g' L' h' FG' F' N' B' X' T' K1'
  (try dsimp only); (try k_lift B'); (try k_fold)
  have XK := inOf (s := ⟨h1, g0, d0, tk0, os0⟩) KI1 K1'
  w_strict k_steps
  unfold Stop
  have XF : InW KF g' := fun b o e => XK b o (sub b o e)
  have hne : ∀ p ∈ (dx, emptyDict) :: news, p.1 ≠ x := fun p hp => by
    rcases List.mem_cons.mp hp with rfl | hp
    · exact Ne.symm hX0
    · exact Nat.ne_of_lt (Nat.lt_trans (hdx p hp) hxd)
  refine set_slot (K := KF) F' XF N' ⟨(N' _ (.head _)).1, rfl, rfl, (N' _ (.tail _ (.head _))).1⟩ kc.sa kc.po kc.ta kc.ty kc.sl (by decide) (ox' := keyO C dx v) rfl rfl (Upd.head hne) ?_
  intro h2 F2 N2
  w_strict k_steps
  refine hret _ _ _ _ (by k_asm) (by k_asm) (fun b o e ne => ?_) hsz hxd
  exact F2.keep b o (K1' b o (up b o e).1 fun p hp => by
    rcases List.mem_cons.mp hp with rfl | hp
    · exact Ne.symm (up b o e).2.1
    · rcases List.mem_cons.mp hp with rfl | hp
      · exact Ne.symm (up b o e).2.2
      · exact ne p hp)
end Mine
end SecbK4
section SecbFR
theorem Mine.offbFR : True := by
  w_top off
  k_with_none
  trivial
open PySem PySem.W PyProof.Rows PySem.Spec PySem.Calls PyProof.Rows.LCg
set_option maxRecDepth 100000
set_option maxHeartbeats 8000000
namespace Mine
inductive FEnd (h₀ : Heap) (L : Addr) (s : Shared) (I : Addr) (oI : Obj) (J : Nat → (Str → Option Value) → List (Addr × Obj) → Prop) (i : Nat) (f : Flow) (s₂ : Shared)  : Prop
  | mk (w1 : (f = .next ∨ f = .cont)) (h' : _) (tk : _) (m' : _) (news' : _) (w2 : s₂ = { s with heap := h', toks := tk }) (w3 : Fr h₀ L h' m') (w4 : News h₀ L h' ((I, oI) :: news')) (w5 : (∀ p ∈ news', p.1 ≠ I)) (w6 : J i m' news')
inductive FSrc (prog : Program) (w : World) (A : Around) (h₀ : Heap) (L : Addr) (env : Env) (x : Str) (px : Pos) (body : List Stmt) (J : Nat → (Str → Option Value) → List (Addr × Obj) → Prop) (Q : Flow → Shared → Prop) (xv : Value) (s₁ : Shared)  : Prop
  | mk (r : _) (b : _) (t : _) (u : _) (v : _) (n : _) (m : _) (news : _) (w1 : xv = .ref r) (w2 : A.handled = none) (w3 : Fr h₀ L s₁.heap m) (w4 : News h₀ L s₁.heap news) (w5 : IsRange s₁.heap r 0 b 1 t u v) (w6 : Builtin.Range.small 0 b 1 = true) (w7 : Builtin.Range.rangeSize 0 b 1 = ((n : Nat) : Int)) (w8 : J 0 m news) (w9 : (∀ i m₁ news₁ h₁ tk₁ t I oI (E' : Value → Shared → Prop), i < n → Fr h₀ L h₁ m₁ → News h₀ L h₁ ((I, oI) :: news₁) → (∀ p ∈ news₁, p.1 ≠ I) → J i m₁ news₁ → wpAny (model prog w) A (assign (.Name x px) env (.int (i : Int) t)) (fun _ s₂ => wpAny (model prog w) A (execs body env) (FEnd h₀ L s₁ I oI J (i + 1)) E' s₂) E' { s₁ with heap := h₁, toks := tk₁ })) (w10 : ∀ m₁ news₁ h₁ tk₁, Fr h₀ L h₁ m₁ → News h₀ L h₁ news₁ → J n m₁ news₁ → Q .next { s₁ with heap := h₁, toks := tk₁ })
section
variable {prog : Program} {w : World} {A : Around} {E : Value → Shared → Prop} {s : Shared} {h₀ : Heap} {L : Addr} {env : Env}
theorem forK {x : Str} {px pos : Pos} {iter : Expr} {body : List Stmt} {Q : Flow → Shared → Prop} (J : Nat → (Str → Option Value) → List (Addr × Obj) → Prop)
    (h : wpAny (model prog w) A (eval iter env) (FSrc prog w A h₀ L env x px body J Q) E s) (hs : ∀ x, foldedSetIterable iter env x = pure x := by intro _; rfl) :
    wpAny (model prog w) A (exec (.For (.Name x px) iter body [] pos) env) Q E s := by
  refine wpAny_For (wpAny_mono h (fun xv s₁ h₁ => ?_) fun _ _ e => e) hs
  obtain ⟨r, b, t, u, v, n, m, news, rfl, hh, F, N, hr, hsm, hn, hJ, turn, fin⟩ := h₁
  refine wpAny_pyIter_range hr hsm ?_
  have up : ∀ (o : Obj) b o', s₁.heap.get? b = some o' → (s₁.heap.push o).get? b = some o' := fun o b o' e => Heap.get?_push_of_some _ e
  have hIL : L ≠ s₁.heap.objs.size := Nat.ne_of_lt F.ns.lt
  have hI₀ : h₀.get? s₁.heap.objs.size = none := next_is_new F
  have W : Walks prog w A s₁.heap.objs.size [s₁.heap.objs.size] [s₁.heap.objs.size] n (fun i v => ∃ t, v = .int ((0 : Int) + (i : Int)) t) (fun i h => IsRangeIter h s₁.heap.objs.size ((0 : Int) + (i : Nat) * 1) ((n : Int) - (i : Nat)) 1) := range_walks hh 0 n
  refine codeAny_forLoop (fun k s' => ∃ h' tk i m' news', s' = { s₁ with heap := h', toks := tk } ∧ i ≤ n ∧ k = n + 1 - i ∧ IsRangeIter h' s₁.heap.objs.size ((0 : Int) + (i : Nat) * 1) ((n : Int) - (i : Nat)) 1 ∧ Fr h₀ L h' m' ∧ News h₀ L h' news' ∧ (∀ p ∈ news', p.1 ≠ s₁.heap.objs.size) ∧ J i m' news') ?_ (n + 1)
    ⟨_, _, 0, m, news, rfl, Nat.zero_le _, rfl, (by show IsRangeIter _ _ _ _ _; rw [hn]; simpa using Heap.get?_push_size _ rfl), F.keeps (up _), N.grown (up _), (fun p hp => Nat.ne_of_lt (Heap.lt_size (N p hp).1)), hJ⟩
  rintro k s' ⟨h', tk, i, m', news', rfl, hi, rfl, hst, F', N', off, J'⟩
  by_cases hlt : i < n
  · refine W.item i _ _ _ hlt hst fun v h₂ tk₂ hPv hst₂ hk₂ => ?_
    obtain ⟨t', rfl⟩ := hPv
    have oI := (show h₂.get? s₁.heap.objs.size = some _ from hst₂)
    have F₂ := fr_but F' hk₂ hIL hI₀
    have N₂ := news_but N' hk₂ off
    have := turn i m' news' h₂ tk₂ t' s₁.heap.objs.size _ (notedBy (model prog w) A env fun e s' => cameBackBy (model prog w) A env E e s') hlt F₂ (fun p hp => by
      rcases List.mem_cons.mp hp with rfl | hp
      · exact ⟨oI, Ne.symm hIL, hI₀⟩
      · exact N₂ p hp) off J'
    rw [Int.zero_add]
    refine wpAny_mono this (fun _ s₂ hb => wpAny_mono hb (fun f s₃ hf => ?_) fun _ _ e => e) fun _ _ e => e
    obtain ⟨hfl, h₄, tk₄, m₄, news₄, rfl, F₄, N₄, off₄, J₄⟩ := hf
    have done : ∃ m, m < n + 1 - i ∧ ∃ h' tk j m' news', ({ s₁ with heap := h₄, toks := tk₄ } : Shared) = { s₁ with heap := h', toks := tk } ∧ j ≤ n ∧ m = n + 1 - j ∧ IsRangeIter h' s₁.heap.objs.size ((0 : Int) + (j : Nat) * 1) ((n : Int) - (j : Nat)) 1 ∧ Fr h₀ L h' m' ∧ News h₀ L h' news' ∧ (∀ p ∈ news', p.1 ≠ s₁.heap.objs.size) ∧ J j m' news' :=
      ⟨n + 1 - (i + 1), by omega, h₄, tk₄, i + 1, m₄, news₄, rfl, hlt, rfl, (N₄ _ (.head _)).1, F₄, fun p hp => N₄ p (.tail _ hp), off₄, J₄⟩
    rcases hfl with rfl | rfl <;> exact done
  · obtain rfl : i = n := by omega
    refine W.done _ _ _ hst fun h₂ tk₂ hk₂ => ?_
    exact wpAny_execs_nil (fin m' news' h₂ _ (fr_but F' hk₂ hIL hI₀) (news_but N' hk₂ off) J')
end
end Mine
end SecbFR
section SecbCI
theorem Mine.offbCI : True := by
  w_top off
  k_with_none
  trivial
open PySem PySem.W PyProof.Rows PySem.Spec PySem.Calls PyProof.Rows.LCg
set_option maxRecDepth 100000
set_option maxHeartbeats 8000000
namespace Mine
section
variable {prog : Program} {w : World} {A : Around} {E : Value → Shared → Prop} {s : Shared} {h₀ : Heap} {L : Addr} {m : Str → Option Value} {env : Env}
theorem kiW {g h : Heap} {L : Addr} {m : Str → Option Value} {R W : List (Addr × Obj)} {K : Frag} (F : Fr g L h m) (N : News g L h (R ++ W)) (X : K.In g) (hd : ∀ p ∈ R, ∀ q ∈ W, q.1 ≠ p.1) : KI (W ++ K) h R := by
  have hN : ∀ p ∈ R, g.get? p.1 = none := fun p hp => (N p (List.mem_append_left _ hp)).2.2
  have hW : ∀ q ∈ W, h.get? q.1 = some q.2 := fun q hq => (N q (List.mem_append_right _ hq)).1
  clear N
  intro b o e
  induction W with
  | nil => exact ⟨F.keep b o (X b o e), fun p hp q => by have := hN p hp; rw [q, X b o e] at this; cases this⟩
  | cons y r ih =>
    obtain ⟨a, x⟩ := y
    rw [List.cons_append, List.lookup_cons] at e
    by_cases q : (b == a) = true
    · rw [q] at e; cases e; rw [eq_of_beq q]; exact ⟨hW _ (.head _), fun p hp z => hd p hp _ (.head _) z.symm⟩
    · rw [Bool.not_eq_true] at q; rw [q] at e; exact ih (fun p hp z hz => hd p hp z (.tail _ hz)) (fun z hz => hW z (.tail _ hz)) e
theorem news_back {h h' : Heap} {R R' W : List (Addr × Obj)} (N : News h₀ L h (R ++ W)) (N' : News h₀ L h' R') (K : Kept h R h') (hd : ∀ p ∈ R, ∀ q ∈ W, q.1 ≠ p.1) : News h₀ L h' (R' ++ W) := fun p hp => by
  rcases List.mem_append.mp hp with hp | hp
  · exact N' p hp
  · have y := N p (List.mem_append_right _ hp)
    exact ⟨K p.1 p.2 y.1 fun q hq e => hd q hq p hp e.symm, y.2⟩
end
end Mine
end SecbCI
section SecbCT
theorem Mine.offbCT : True := by
  w_top off
  k_with_none
  trivial
open PySem PySem.W PyProof.Rows PySem.Spec PySem.Calls
set_option maxRecDepth 100000
set_option maxHeartbeats 8000000
namespace Mine
section
variable {prog : Program} {w : World} {A : Around} {E : Value → Shared → Prop} {s : Shared} {g : Heap} {news : List (Addr × Obj)} {n : Nat}
theorem codeDefTop {R : Result → Shared → Prop} {K : Frag} {p : Program} {loose : List Str} {mean : ExcName → Option Value} {mg mb : Str → Option Value} {name qual : Str} {params : Arguments} {body : List Stmt} {scope : Scope} {dV kV doc pm cdv ct oc : Value} {an od : Option Addr} {osl : Array (Option Value)} {f : Addr} {args : Args} {x : Str} {v : Value} {c : Nat}
    (hg : ∀ b o, g.get? b = some o → s.heap.get? b = some o) (hgs : g.objs.size = s.heap.objs.size) (X₀ : K.In g) (N : ∀ q ∈ news, s.heap.get? q.1 = some q.2 ∧ g.get? q.1 = none) (T : Top p loose mean mg mb g)
    (Z : s.heap.objs.size = n)
    (ho : K.lookup f = some ⟨oc, od, .func (fnOf name qual params body scope dV kV doc pm an cdv ct), osl⟩) (hcd : codeIn K cdv qual = true) (hroom : A.depth < recursionLimit)
    (hbind : BindsTo s (fnOf name qual params body scope dV kV doc pm an cdv ct) args [(x, v)]) (hl : scope.names.lookup x = some .local)
    (hnd : ((cellsFrom 0 scope.names []).map (·.1)).Nodup) (hc : 1 + (scope.names.filter fun y => y.2 == .cell).length = c)
    (h : ∀ L' h₁ tk cells, Fr g L' h₁ (bindL (envOfC qual scope L' f cdv).kindOf [(x, v)] fun _ => none) → News g L' h₁ (cells ++ news) →
      CellsAre (bindC (envOfC qual scope L' f cdv).kindOf [(x, v)] fun _ => none) (cellsFrom (L' + 1) scope.names []) cells → (∀ p ∈ news, p.1 < L') → h₁.objs.size = n + c →
      wpAny (model prog w) (A.deeper (envOfC qual scope L' f cdv)) (execs body (envOfC qual scope L' f cdv))
        (fun fl s' => R (.ok (.ret (match fl with | .ret v => v | _ => .none))) s')
        (fun e s' => wpAny (model prog w) (A.deeper (envOfC qual scope L' f cdv)) (leaving (envOfC qual scope L' f cdv) e) (fun _ s'' => R (.error e) s'') (fun e' s'' => R (.error e') s'') s')
        { s with heap := h₁, toks := tk })
    (hco : scope.isCoroutine = false) (hgen : scope.isGenerator = false) (hk : scope.kind = .function) : codeAny (model prog w) A (.call (.ref f) args) R s := by
  have X := X₀.keeps hg
  refine codeAny_call_function hroom (X _ _ ho) rfl hco hgen rfl (codeRec_of X hcd) (hbind _ _ _ _ ?_)
  refine newEnvZ hk hl fun env' he s' y hz => ?_
  subst he
  refine ⟨(T.nolimit.keeps hg).keeps y.toInCall.keep, codeAny_func ?_⟩
  obtain ⟨h₁, tk, rfl, _⟩ := y.done
  have hk₁ := y.toInCall.keep
  obtain ⟨cells, NC, Y⟩ := Cl.news (h₀ := s.heap) (Nat.le_refl _) fun n c hm => ⟨y.cell n c (lookup_of_mem_nodup (cellsFrom_names scope.names 0 (s.heap.objs.size + 1) [] [] rfl ▸ hnd) hm), y.above n c hm⟩
  refine h s.heap.objs.size h₁ tk cells ⟨y.toInCall.ns, fun b o e => hk₁ b o (hg _ _ e), Nat.le_of_eq hgs⟩ (fun p hp => ?_) Y (fun p hp => Heap.lt_size (N p hp).1) (by rw [← hc, ← Z, ← Nat.add_assoc]; exact hz)
  rcases List.mem_append.mp hp with hp | hp
  · refine ⟨(NC p hp).1, (NC p hp).2.1, ?_⟩
    cases q : g.get? p.1 with
    | none => rfl
    | some o => have := hg _ _ q; rw [(NC p hp).2.2] at this; cases this
  · exact ⟨hk₁ _ _ (N p hp).1, Nat.ne_of_lt (Heap.lt_size (N p hp).1), (N p hp).2⟩
end
end Mine
end SecbCT
section SecbIT
theorem Mine.offbIT : True := by
  w_top off
  k_with_none
  trivial
open PySem PySem.W PyProof.Rows PySem.Spec PySem.Calls PyProof.Rows.LCg
set_option maxRecDepth 100000
set_option maxHeartbeats 8000000
namespace Mine
abbrev liObj (l : Addr) (i : Nat) : Obj := { cls := .type "list_iterator", data := .fields #[.ref l, .int i 0] }
section
variable {prog : Program} {w : World} {A : Around} {E : Value → Shared → Prop} {s : Shared} {h₀ : Heap} {L l I : Addr} {m : Str → Option Value} {news : List (Addr × Obj)} {items : Array Value} {env : Env}
theorem iterList {Q : Value → Shared → Prop} (F : Fr h₀ L s.heap m) (N : News h₀ L s.heap news) (hl : s.heap.IsList l items)
    (h : ∀ (I : Addr) h', Fr h₀ L h' m → News h₀ L h' ((I, liObj l 0) :: news) → (∀ p ∈ news, p.1 < I) → Q (.ref I) { s with heap := h' }) :
    wpAny (model prog w) A (call (.builtin "iter") [.ref l]) Q E s := by
  refine call_function_entry (by decide +kernel) (by decide +kernel) kdk_entry_iter (kdk_args_iter _) ?_
  unfold Builtin.«iter»
  refine wpAny_bind (m := someArgs "iter" 1 2 _) (wpAny_of_eq (a := [Value.ref l]) (by first | rfl | kernel_rfl!) ?_)
  show wpAny _ _ (pyIter (.ref l) >>= _) _ _ _
  refine wpAny_bind (wpAny_pyIter_list hl ?_)
  exact wpAny_pure ⟨_, rfl, h _ _ (F.push _) (News.push F N _ rfl) (fun q hq => Heap.lt_size (N q hq).1)⟩
theorem li_special {i : Nat} {x : Value} {Q : Option Value → Shared → Prop} (hit : s.heap.IsListIter I l i) (hl : s.heap.IsList l items) (hx : items[i]? = some x)
    (hQ : ∀ h', h'.IsListIter I l (i + 1) → Heap.SameBut I s.heap h' → Q (some x) { s with heap := h' }) :
    wpAny (model prog w) A (callSpecial? (.ref I) (Str.ofString "__next__")) Q E s := by
  obtain ⟨o, ho, hc, hd⟩ := id hit
  obtain ⟨ol, hol, _, nl, hdl⟩ := hl
  refine wpAny_callSpecial?_slot (name := Str.ofString "__next__") hit.typeIs slot_listiter_next
    (wpAny_call_entry slot_listiter_next hit.typeIs entry_listiter_next ?_ (args_listiter_next _))
  show wpAny _ _ (field (.ref I) 0 >>= _) _ _ s
  refine wpAny_bind (wpAny_field ho hd (x := .ref l) rfl ?_)
  show wpAny _ _ (if (Value.ref l == Value.none) = true then _ else _) _ _ s
  rw [if_neg (show ¬ ((Value.ref l == Value.none) = true) from Bool.false_ne_true)]
  show wpAny _ _ (field (.ref I) 1 >>= _) _ _ s
  refine wpAny_bind (wpAny_field ho hd (x := .int i 0) rfl ?_)
  show wpAny _ _ (seqItems? (.ref l) >>= _) _ _ s
  refine wpAny_bind (wpAny_seqItems hol hdl ?_)
  simp only [Int.toNat_natCast, hx]
  refine wpAny_bind (wpAny_setField ho hd (by simp) (wpAny_pure ⟨x, rfl, hQ _ ?_ (Heap.SameBut.update ..)⟩))
  exact ⟨_, Heap.get?_update_self _ ho (Obj.isFreed_of_fields (Obj.data_mapFields hd _)), (Obj.cls_mapFields ..).trans hc, by
    rw [Obj.data_mapFields hd]; simp [rawInt]⟩
theorem nextList {i : Nat} {x : Value} {oI : Obj} {Q : Value → Shared → Prop} (F : Fr h₀ L s.heap m) (N : News h₀ L s.heap ((I, oI) :: news)) (off : ∀ p ∈ news, p.1 ≠ I) (hit : s.heap.IsListIter I l i) (hl : s.heap.IsList l items) (hx : items[i]? = some x)
    (h : ∀ h' oI', Fr h₀ L h' m → News h₀ L h' ((I, oI') :: news) → h'.IsListIter I l (i + 1) → Q x { s with heap := h' }) :
    wpAny (model prog w) A (call (.builtin "next") [.ref I]) Q E s := by
  have hm := N (I, oI) (.head _)
  refine call_function_entry (by decide +kernel) (by decide +kernel) kdk_entry_next (kdk_args_next _) ?_
  unfold Builtin.«next»
  refine wpAny_bind (m := someArgs "next" 1 2 _) (wpAny_of_eq (a := [Value.ref I]) (by first | rfl | kernel_rfl!) ?_)
  dsimp only
  refine wpAny_bind (wpAny_specialOf (name := Str.ofString "__next__") hit.typeIs slot_listiter_next.lookup ?_)
  refine wpAny_ite_split (fun hab => absurd hab (by decide)) (fun _ => ?_)
  refine wpAny_bind (li_special hit hl hx fun h' hit' hs => ?_)
  obtain ⟨o', ho', hc', hd'⟩ := id hit'
  exact wpAny_pure ⟨_, rfl, h h' o' (F.change hs hm.2.1 hm.2.2) (fun p hp => by
    rcases List.mem_cons.mp hp with rfl | hp
    · exact ⟨ho', hm.2⟩
    · exact ⟨hs.extBut _ _ (off p hp) (N p (.tail _ hp)).1, (N p (.tail _ hp)).2⟩) hit'⟩
inductive FItSrc (prog : Program) (w : World) (A : Around) (h₀ : Heap) (L : Addr) (env : Env) (x : Str) (px : Pos) (body : List Stmt) (J : Nat → (Str → Option Value) → List (Addr × Obj) → Prop) (Q : Flow → Shared → Prop) (xv : Value) (s₁ : Shared)  : Prop
  | mk (I l : Addr) (items : Array Value) (c i₀ : Nat) (m : Str → Option Value) (news : List (Addr × Obj)) (w1 : xv = .ref I) (w2 : A.handled = none) (w3 : Fr h₀ L s₁.heap m) (w4 : News h₀ L s₁.heap news) (w5 : (∀ p ∈ news, p.1 ≠ I)) (w6 : I ≠ L) (w7 : h₀.get? I = none) (w8 : l ≠ I) (w9 : s₁.heap.IsListIter I l i₀) (w10 : i₀ ≤ items.size) (w11 : J i₀ m news) (w12 : (∀ i m₁ news₁, J i m₁ news₁ → (l, PySem.W.listOf items c) ∈ news₁)) (w13 : (∀ i v m₁ news₁ h₁ tk₁ oI (E' : Value → Shared → Prop), i < items.size → items[i]? = some v → Fr h₀ L h₁ m₁ → News h₀ L h₁ ((I, oI) :: news₁) → (∀ p ∈ news₁, p.1 ≠ I) → J i m₁ news₁ → wpAny (model prog w) A (assign (.Name x px) env v) (fun _ s₂ => wpAny (model prog w) A (execs body env) (FEnd h₀ L s₁ I oI J (i + 1)) E' s₂) E' { s₁ with heap := h₁, toks := tk₁ })) (w14 : ∀ m₁ news₁ h₁ tk₁, Fr h₀ L h₁ m₁ → News h₀ L h₁ news₁ → J items.size m₁ news₁ → Q .next { s₁ with heap := h₁, toks := tk₁ })
theorem forIt {x : Str} {px pos : Pos} {iter : PySem.Expr} {body : List Stmt} {Q : Flow → Shared → Prop} (J : Nat → (Str → Option Value) → List (Addr × Obj) → Prop)
    (h : wpAny (model prog w) A (eval iter env) (FItSrc prog w A h₀ L env x px body J Q) E s) (hs : ∀ x, foldedSetIterable iter env x = pure x := by intro _; rfl) :
    wpAny (model prog w) A (exec (.For (.Name x px) iter body [] pos) env) Q E s := by
  refine wpAny_For (wpAny_mono h (fun xv s₁ h₁ => ?_) fun _ _ e => e) hs
  obtain ⟨I, l, items, c, i₀, m, news, rfl, hh, F, N, off₀, hIL, hI₀, hlI, hit, hi₀, hJ, hJl, turn, fin⟩ := h₁
  refine wpAny_pyIter_listiter hit ?_
  have W := Walks.list (prog := prog) (w := w) hh I l hlI items
  have isl : ∀ {h : Heap} {i m₁ news₁}, News h₀ L h news₁ → J i m₁ news₁ → h.IsList l items := fun N J => ⟨_, (N _ (hJl _ _ _ J)).1, rfl, _, rfl⟩
  refine codeAny_forLoop (fun k s' => ∃ h' tk i m' news', s' = { s₁ with heap := h', toks := tk } ∧ i ≤ items.size ∧ k = items.size + 1 - i ∧ h'.IsListIter I l i ∧ Fr h₀ L h' m' ∧ News h₀ L h' news' ∧ (∀ p ∈ news', p.1 ≠ I) ∧ J i m' news') ?_ (items.size + 1 - i₀)
    ⟨_, _, i₀, m, news, rfl, hi₀, rfl, hit, F, N, off₀, hJ⟩
  rintro k s' ⟨h', tk, i, m', news', rfl, hi, rfl, hst, F', N', off, J'⟩
  by_cases hlt : i < items.size
  · refine W.item i _ _ _ hlt ⟨hst, isl N' J'⟩ fun v h₂ tk₂ hPv hst₂ hk₂ => ?_
    obtain ⟨oI, hoI, hoc, hod⟩ := id hst₂.1
    have F₂ := fr_but F' hk₂ (Ne.symm hIL) hI₀
    have N₂ := news_but N' hk₂ off
    have := turn i v m' news' h₂ tk₂ oI (notedBy (model prog w) A env fun e s' => cameBackBy (model prog w) A env E e s') hlt hPv F₂ (fun p hp => by
      rcases List.mem_cons.mp hp with rfl | hp
      · exact ⟨hoI, hIL, hI₀⟩
      · exact N₂ p hp) off J'
    refine wpAny_mono this (fun _ s₂ hb => wpAny_mono hb (fun f s₃ hf => ?_) fun _ _ e => e) fun _ _ e => e
    obtain ⟨hfl, h₄, tk₄, m₄, news₄, rfl, F₄, N₄, off₄, J₄⟩ := hf
    have done : ∃ m, m < items.size + 1 - i ∧ ∃ h' tk j m' news', ({ s₁ with heap := h₄, toks := tk₄ } : Shared) = { s₁ with heap := h', toks := tk } ∧ j ≤ items.size ∧ m = items.size + 1 - j ∧ h'.IsListIter I l j ∧ Fr h₀ L h' m' ∧ News h₀ L h' news' ∧ (∀ p ∈ news', p.1 ≠ I) ∧ J j m' news' :=
      ⟨items.size + 1 - (i + 1), by omega, h₄, tk₄, i + 1, m₄, news₄, rfl, hlt, rfl, ⟨oI, (N₄ _ (.head _)).1, hoc, hod⟩, F₄, fun p hp => N₄ p (.tail _ hp), off₄, J₄⟩
    rcases hfl with rfl | rfl <;> exact done
  · obtain rfl : i = items.size := by omega
    refine W.done _ _ _ ⟨hst, isl N' J'⟩ fun h₂ tk₂ hk₂ => ?_
    exact wpAny_execs_nil (fin m' news' h₂ _ (fr_but F' hk₂ (Ne.symm hIL) hI₀) (news_but N' hk₂ off) J')
end
end Mine
end SecbIT
section SecbLG
theorem Mine.offbLG : True := by
  w_top off
  k_with_none
  trivial
open PySem PySem.W PyProof.Rows PySem.Spec PySem.Calls
set_option maxRecDepth 100000
set_option maxHeartbeats 8000000
namespace Mine
def Grow (Wa W W' : List (Addr × Obj)) : Prop := (∀ p ∈ W, p ∈ W') ∧ ∀ p ∈ W', p ∈ W ∨ ∀ q ∈ Wa ++ W, q.1 < p.1
theorem Grow.trans {Wa A B C : List (Addr × Obj)} (h1 : Grow Wa A B) (h2 : Grow Wa B C) : Grow Wa A C := ⟨fun p hp => h2.1 p (h1.1 p hp), fun p hp => by
  rcases h2.2 p hp with q | q
  · exact h1.2 p q
  · exact .inr fun r hr => q r (by
      rcases List.mem_append.mp hr with hr | hr
      · exact List.mem_append_left _ hr
      · exact List.mem_append_right _ (h1.1 r hr))⟩
theorem Grow.off {Wa A B : List (Addr × Obj)} (h : Grow Wa A B) {x : Addr × Obj} (hx : x ∈ Wa) (ho : ∀ p ∈ A, p.1 ≠ x.1) : ∀ p ∈ B, p.1 ≠ x.1 := fun p hp => by
  rcases h.2 p hp with q | q
  · exact ho p q
  · exact Nat.ne_of_gt (q x (List.mem_append_left _ hx))
/-- what a caller of int_divmod may forget of it -/
inductive RetG (Wa W : List (Addr × Obj)) (P : Value → Prop) (r : Value) (news' : List (Addr × Obj)) : Prop
  | mk (ps30' : _) (ps37' : _) (W' : _) (w1 : news' = (30, tabObj ps30') :: (37, tabObj ps37') :: (Wa ++ W')) (w2 : T30 ps30' W') (w3 : T37 ps37' W') (w4 : Grow Wa W W') (w5 : (∀ p ∈ W', p.1 ≠ 30 ∧ p.1 ≠ 37)) (w6 : P r)
theorem retQ_G {g h : Heap} {L : Addr} {ps30 ps37 : Array Value} {Wa W news' : List (Addr × Obj)} {q r : Int} {v : Value} (N : News g L h news') (hT30 : T30 ps30 W) (hT37 : T37 ps37 W) (hW : ∀ p ∈ W, p.1 ≠ 30 ∧ p.1 ≠ 37) (hR : RetQ ps30 ps37 (Wa ++ W) q r v news') :
    ∃ ps30' ps37' W' t t1 t2, v = .ref t ∧ News g L h ((30, tabObj ps30') :: (37, tabObj ps37') :: (Wa ++ W')) ∧ T30 ps30' W' ∧ T37 ps37' W' ∧ Grow Wa W W' ∧ (∀ p ∈ W', p.1 ≠ 30 ∧ p.1 ≠ 37) ∧ (t, pairObj q r t1 t2) ∈ W' := by
  obtain ⟨t, t1, t2, c3, oc3, cvs3, ct3, c4, oc4, cvs4, ct4, rfl, rfl, hcd3, hcv3, hcd4, hcv4, ho1, ho2, ho3, ho4, ho5, ho6⟩ := hR
  have nc : ∀ (c : Addr) (oc : Obj) (cvs : Array Value) (sx : Str) (tx : Tok), oc.data = .fields cvs → cvs[1]? = some (.str sx tx) → h.get? c = some oc → c ≠ 30 ∧ c ≠ 37 := fun c oc cvs sx tx hd hv e => by
    refine ⟨fun q => ?_, fun q => ?_⟩
    · have := (N (30, tabObj #[rawInt 32, rawInt 4, .ref c3]) (by simp)).1
      rw [← q, e] at this
      cases this; cases hd; simp [rawInt] at hv
    · have := (N (37, tabObj #[rawInt 47, rawInt 4, .ref c4]) (by simp)).1
      rw [← q, e] at this
      cases this; cases hd; simp [rawInt] at hv
  have e3 := (N (c3, oc3) (by simp)).1
  have e4 := (N (c4, oc4) (by simp)).1
  have n3 := nc _ _ _ _ _ hcd3 hcv3 e3
  have n4 := nc _ _ _ _ _ hcd4 hcv4 e4
  have h3 : (c3, oc3) ∈ W ∨ ∀ q ∈ Wa ++ W, q.1 < c3 := by
    rcases ho5 with rfl | q
    · rcases hT30 with q | ⟨c', oc', _, _, q, hm, _⟩
      · simp at q
      · simp only [Array.mk.injEq, List.cons.injEq, Value.ref.injEq, and_true, true_and] at q
        subst q
        have e := (N (c3, oc') (by simp [hm])).1
        rw [e3] at e; cases e; exact .inl hm
    · exact .inr q
  have h4 : (c4, oc4) ∈ W ∨ ∀ q ∈ Wa ++ W, q.1 < c4 := by
    rcases ho6 with rfl | q
    · rcases hT37 with q | ⟨c', oc', _, _, q, hm, _⟩
      · simp at q
      · simp only [Array.mk.injEq, List.cons.injEq, Value.ref.injEq, and_true, true_and] at q
        subst q
        have e := (N (c4, oc') (by simp [hm])).1
        rw [e4] at e; cases e; exact .inl hm
    · exact .inr q
  refine ⟨_, _, (t, pairObj q r t1 t2) :: (c3, oc3) :: (c4, oc4) :: W, t, t1, t2, rfl, fun p hp => N p ?_, .inr ⟨c3, oc3, cvs3, ct3, rfl, .tail _ (.head _), hcd3, hcv3⟩, .inr ⟨c4, oc4, cvs4, ct4, rfl, .tail _ (.tail _ (.head _)), hcd4, hcv4⟩, ⟨fun p hp => .tail _ (.tail _ (.tail _ hp)), fun p hp => ?_⟩, fun p hp => ?_, .head _⟩
  · simp only [List.mem_cons, List.mem_append] at hp ⊢
    rcases hp with h | h | h | h | h | h | h <;> simp [h]
  · simp only [List.mem_cons] at hp
    rcases hp with rfl | rfl | rfl | hp
    · exact .inr ho1
    · exact h3
    · exact h4
    · exact .inl hp
  · simp only [List.mem_cons] at hp
    rcases hp with rfl | rfl | rfl | hp
    · exact ⟨Nat.ne_of_gt (Nat.lt_trans (by decide : (30 : Nat) < 37) ho2), Nat.ne_of_gt ho2⟩
    · exact n3
    · exact n4
    · exact hW p hp
theorem retQ_use {h₀ : Heap} {L : Addr} {m : Str → Option Value} {ps30 ps37 : Array Value} {Wa W : List (Addr × Obj)} {q r : Int} {G : Value → Heap → Nat → Prop} (hT30 : T30 ps30 W) (hT37 : T37 ps37 W) (hW : ∀ p ∈ W, p.1 ≠ 30 ∧ p.1 ≠ 37)
    (k : ∀ ps30' ps37' W' t t1 t2 h' tk', Fr h₀ L h' m → News h₀ L h' ((30, tabObj ps30') :: (37, tabObj ps37') :: (Wa ++ W')) → T30 ps30' W' → T37 ps37' W' → Grow Wa W W' → (∀ p ∈ W', p.1 ≠ 30 ∧ p.1 ≠ 37) → (t, pairObj q r t1 t2) ∈ W' → G (.ref t) h' tk') :
    ∀ v news' h' tk', Fr h₀ L h' m → News h₀ L h' news' → RetQ ps30 ps37 (Wa ++ W) q r v news' → G v h' tk' := by
  intro v news' h' tk' F N hR
  obtain ⟨ps30', ps37', W', t, t1, t2, rfl, N', a, b, c, d, e⟩ := retQ_G N hT30 hT37 hW hR
  exact k _ _ _ _ _ _ _ _ F N' a b c d e
end Mine
end SecbLG
section SecZE
theorem Mine.offZE : True := by
  w_top off
  k_with_none
  trivial
open PySem PySem.W PyProof.Rows PySem.Spec PySem.Calls
set_option maxRecDepth 100000
set_option maxHeartbeats 8000000
namespace Mine
def ZHn (w : World) (n : Nat) (s : Shared) (Q : Value → Shared → Prop) : Prop := ∀ (S' : Shared) (KF : Frag), KC w.params (KF ++ hd2.heap_39 w.params) (n + 60) (n + 61) (n + 16) (n + 24) (n + 40) (n + 1) 107 → (∀ p ∈ KF, S'.heap.get? p.1 = some p.2 ∧ n ≤ p.1) →
  (∀ b o, s.heap.get? b = some o → b ≠ 58 → S'.heap.get? b = some o) → (∃ ps58, S'.heap.get? 58 = some (tabObj ps58)) → S'.gens = s.gens → S'.drawn = s.drawn → S'.os = s.os → Q (.ref (n + 60)) S'
def TopZ (ZP : Heap → Prop) (h₀ : Heap) : Prop := ∀ h' : Heap, (∀ b o, h₀.get? b = some o → h'.get? b = some o) → h'.get? 30 = some (tabObj #[]) → h'.get? 37 = some (tabObj #[]) → h'.get? 58 = some (tabObj #[]) → h'.get? 121 = some (tabObj #[]) → ZP h'
theorem TopZ.up {ZP : Heap → Prop} {h₀ g : Heap} {L : Addr} {m : Str → Option Value} (T : TopZ ZP h₀) (F : Fr h₀ L g m) : TopZ ZP g := fun h' k a b c d => T h' (fun x o e => k x o (F.keep x o e)) a b c d
theorem afterCmp {g h h' : Heap} {L : Addr} {m : Str → Option Value} {R KF : List (Addr × Obj)} {ps58 : Array Value} {n : Nat} (F : Fr g L h m) (N : News g L h R) (h58 : g.get? 58 = none) (hR : ∀ p ∈ R, p.1 ≠ 58) (hL : L ≠ 58) (sz : h.objs.size = n)
    (hK : ∀ p ∈ KF, h'.get? p.1 = some p.2 ∧ n ≤ p.1) (keep : ∀ b o, h.get? b = some o → b ≠ 58 → h'.get? b = some o) (h58' : h'.get? 58 = some (tabObj ps58)) : Fr g L h' m ∧ News g L h' (R ++ ((58, tabObj ps58) :: KF)) := by
  have hLl := F.ns.lt
  refine ⟨⟨F.ns.at' fun o e => keep L o e hL, fun b o e => keep b o (F.keep b o e) (fun q => by rw [q, h58] at e; cases e), F.above⟩, fun p hp => ?_⟩
  rcases List.mem_append.mp hp with hp | hp
  · exact ⟨keep _ _ (N p hp).1 (hR p hp), (N p hp).2⟩
  · rcases List.mem_cons.mp hp with rfl | hp
    · exact ⟨h58', Ne.symm hL, h58⟩
    have h1 := hK p hp
    refine ⟨h1.1, fun q => ?_, ?_⟩
    · have := h1.2; rw [q] at this; exact Nat.lt_irrefl n (Nat.lt_of_le_of_lt this (sz ▸ hLl))
    · cases e : g.get? p.1 with
      | none => rfl
      | some o => exact absurd (Nat.lt_of_le_of_lt h1.2 (sz ▸ Heap.lt_size (F.keep _ _ e))) (Nat.lt_irrefl n)
end Mine
end SecZE
section SecLU
theorem Mine.offLU : True := by
  w_top off
  k_with_none
  trivial
open PySem PySem.W PyProof.Rows PySem.Spec PySem.Calls
set_option maxRecDepth 100000
set_option maxHeartbeats 2000000
namespace Mine
theorem lk_app {W K : Frag} {b : Addr} {o : Obj} (h : (W ++ K).lookup b = some o) : (b, o) ∈ W ∨ K.lookup b = some o := by
  induction W with
  | nil => exact .inr h
  | cons p r ih =>
    obtain ⟨a, x⟩ := p
    rw [List.cons_append, List.lookup_cons] at h
    by_cases e : (b == a) = true
    · rw [e] at h; cases h; rw [eq_of_beq e]; exact .inl List.mem_cons_self
    · rw [Bool.not_eq_true] at e; rw [e] at h
      rcases ih h with q | q
      · exact .inl (List.mem_cons_of_mem _ q)
      · exact .inr q
theorem Sub.trans' {A B C : Frag} (h1 : Sub A B) (h2 : Sub B C) : Sub A C := fun b o e => h2 b o (h1 b o e)
theorem KeyIn.mono {G G' : Frag} {C k : Addr} {v : Value} (h : Sub G G') : KeyIn G C k v → KeyIn G' C k v := fun ⟨dx, e1, e2⟩ => ⟨dx, h _ _ e1, h _ _ e2⟩
theorem lkHead {K : Frag} {a : Addr} {o : Obj} : ((a, o) :: K).lookup a = some o := by rw [List.lookup_cons, beq_self_eq_true]
theorem lk_some {W K : Frag} {b : Addr} (h : (∃ o, (b, o) ∈ W) ∨ ∃ o, K.lookup b = some o) : ∃ o, (W ++ K).lookup b = some o := by
  induction W with
  | nil =>
    rcases h with ⟨o, h⟩ | h
    · cases h
    · exact h
  | cons p r ih =>
    obtain ⟨a, x⟩ := p
    rw [List.cons_append, List.lookup_cons]
    by_cases e : (b == a) = true
    · rw [e]; exact ⟨_, rfl⟩
    · rw [Bool.not_eq_true] at e; rw [e]
      refine ih ?_
      rcases h with ⟨o, h⟩ | h
      · rcases List.mem_cons.mp h with q | q
        · cases q; simp at e
        · exact .inl ⟨o, q⟩
      · exact .inr h
theorem subH {W W' K : Frag} {h : Heap} (hs : ∀ p ∈ W, p ∈ W') (hW : ∀ p ∈ W', h.get? p.1 = some p.2) (X : ∀ b o, K.lookup b = some o → h.get? b = some o) : Sub (W ++ K) (W' ++ K) := fun b o e => by
  have at_ : ∀ {V : Frag} {o : Obj}, (∀ p ∈ V, h.get? p.1 = some p.2) → (V ++ K).lookup b = some o → h.get? b = some o := fun {V o} hV e => by
    rcases lk_app e with q | q
    · exact hV _ q
    · exact X _ _ q
  have h1 := at_ (fun p hp => hW p (hs p hp)) e
  obtain ⟨o', e'⟩ : ∃ o', (W' ++ K).lookup b = some o' := lk_some (by
    rcases lk_app e with q | q
    · exact .inl ⟨_, hs _ q⟩
    · exact .inr ⟨_, q⟩)
  have h2 := at_ hW e'
  rw [h1] at h2; cases h2; exact e'
theorem lk_of_mem {W K : Frag} {h : Heap} {b : Addr} {o : Obj} (hm : (b, o) ∈ W) (hW : ∀ p ∈ W, h.get? p.1 = some p.2) (X : ∀ b o, K.lookup b = some o → h.get? b = some o) : (W ++ K).lookup b = some o := by
  obtain ⟨o', e⟩ := lk_some (W := W) (K := K) (b := b) (.inl ⟨o, hm⟩)
  have h1 := hW _ hm
  have h2 : h.get? b = some o' := by
    rcases lk_app e with q | q
    · exact hW _ q
    · exact X _ _ q
  rw [h1] at h2; cases h2; exact e
theorem wIn {g h : Heap} {L : Addr} {m : Str → Option Value} {W : List (Addr × Obj)} {K : Frag} (hW : ∀ p ∈ W, h.get? p.1 = some p.2) (X : K.In g) (F : Fr g L h m) : InW (W ++ K) h := by
  intro b o e
  induction W with
  | nil => exact F.keep b o (X b o e)
  | cons p r ih =>
    obtain ⟨a, x⟩ := p
    rw [List.cons_append, List.lookup_cons] at e
    by_cases q : (b == a) = true
    · rw [q] at e; cases e; rw [eq_of_beq q]; exact hW _ (.head _)
    · rw [Bool.not_eq_true] at q; rw [q] at e; exact ih (fun p hp => hW p (.tail _ hp)) e
theorem newsTail {g h : Heap} {L : Addr} {a : Addr × Obj} {R : List (Addr × Obj)} (N : News g L h (a :: R)) : News g L h R := fun p hp => N p (.tail _ hp)
theorem lkOf {W K : Frag} {g h : Heap} {L : Addr} {m : Str → Option Value} {p : Addr × Obj} (hm : p ∈ W) (hW : ∀ p ∈ W, h.get? p.1 = some p.2) (X : K.In g) (F : Fr g L h m) : (W ++ K).lookup p.1 = some p.2 := lk_of_mem hm hW fun b o e => F.keep b o (X b o e)
/-- a ledger's blocks change places; an entry is dropped -/
theorem mvMid {g h : Heap} {L : Addr} (A V B : List (Addr × Obj)) {W : List (Addr × Obj)} (N : News g L h (A ++ (V ++ (B ++ W)))) : News g L h (A ++ (B ++ (V ++ W))) := fun p hp => N p (by
  simp only [List.mem_append] at hp ⊢
  rcases hp with h | h | h | h
  · exact .inl h
  · exact .inr (.inr (.inl h))
  · exact .inr (.inl h)
  · exact .inr (.inr (.inr h)))
theorem mvEnd {g h : Heap} {L : Addr} (A V B : List (Addr × Obj)) (N : News g L h (A ++ (V ++ B))) : News g L h (A ++ (B ++ V)) := fun p hp => N p (by
  simp only [List.mem_append] at hp ⊢
  rcases hp with h | h | h
  · exact .inl h
  · exact .inr (.inr h)
  · exact .inr (.inl h))
theorem mvOut {g h : Heap} {L : Addr} {x : Addr × Obj} (A : List (Addr × Obj)) {W : List (Addr × Obj)} (N : News g L h (A ++ x :: W)) : News g L h (A ++ W) := fun p hp => N p ((List.mem_append.mp hp).elim (List.mem_append_left _) fun q => List.mem_append_right _ (.tail _ q))
end Mine
end SecLU
section SecLO
theorem Mine.offLO : True := by
  w_top off
  k_with_none
  trivial
open PySem PySem.W PyProof.Rows PySem.Spec PySem.Calls
set_option maxRecDepth 100000
set_option maxHeartbeats 4000000
namespace Mine
section
variable {prog : Program} {w : World} {A : Around} {E : Value → Shared → Prop} {s : Shared} {h₀ : Heap} {L a : Addr} {m : Str → Option Value} {value slice : PySem.Expr} {u t1 t2 : Tok} {x y : Int} {G : Frag} {Q : Value → Shared → Prop}
theorem tup0 (X : InW G h₀) (F : Fr h₀ L s.heap m) (hp : G.lookup a = some (pairObj x y t1 t2)) (h : Q (.int x t1) s)
    (hs : subscripted slice false (.ref a) (.int 0 u) = operate [.ref a, .int 0 u] (getItem (.ref a) (.int 0 u)) := by with_unfolding_all rfl) (hg : ∀ r, letTemporaryGo value (.ref a) r = pure () := by intro _; with_unfolding_all rfl) :
    wpAny (model prog w) A (subscriptTail value slice (.ref a) (.int 0 u)) Q E s :=
  item_tupleL (l := [.int x t1, .int y t2]) (j := 0) ⟨_, F.keep _ _ (X _ _ hp), rfl, _, rfl⟩ (by decide) (by decide) rfl rfl h hs hg
theorem tup1 (X : InW G h₀) (F : Fr h₀ L s.heap m) (hp : G.lookup a = some (pairObj x y t1 t2)) (h : Q (.int y t2) s)
    (hs : subscripted slice false (.ref a) (.int 1 u) = operate [.ref a, .int 1 u] (getItem (.ref a) (.int 1 u)) := by with_unfolding_all rfl) (hg : ∀ r, letTemporaryGo value (.ref a) r = pure () := by intro _; with_unfolding_all rfl) :
    wpAny (model prog w) A (subscriptTail value slice (.ref a) (.int 1 u)) Q E s :=
  item_tupleL (l := [.int x t1, .int y t2]) (j := 1) ⟨_, F.keep _ _ (X _ _ hp), rfl, _, rfl⟩ (by decide) (by decide) rfl rfl h hs hg
end
def FracIn (G : Frag) (v : Value) (a : Int × Int) : Prop := ∃ p t1 t2, v = .ref p ∧ G.lookup p = some (pairObj a.1 a.2 t1 t2)
def OkF (k : Nat) (a : Int × Int) : Prop := -(2 ^ 20) < a.1 ∧ a.1 < 2 ^ 20 ∧ 0 < a.2 ∧ a.2 ≤ k ∧ a.2 < 2 ^ 20
def sgOrd (a b : Int × Int) (c : Int) : Prop := (c < 0 ↔ a.1 * b.2 < b.1 * a.2) ∧ (c = 0 ↔ a.1 * b.2 = b.1 * a.2)
theorem ord_lt {x1 y1 x2 y2 : Int} (h1 : 0 < y1) (h2 : 0 < y2) (h : x1.fdiv y1 < x2.fdiv y2) : x1 * y2 < x2 * y1 := by
  have e1 := Int.mul_fdiv_add_fmod x1 y1
  have e2 := Int.mul_fdiv_add_fmod x2 y2
  have r1 := Int.fmod_lt_of_pos x1 h1
  have r2 := Int.fmod_nonneg_of_pos x2 h2
  have a : x1 < y1 * x2.fdiv y2 := by
    have : y1 * (x1.fdiv y1 + 1) ≤ y1 * x2.fdiv y2 := Int.mul_le_mul_of_nonneg_left (by omega) (by omega)
    rw [Int.mul_add, Int.mul_one] at this; omega
  have b : x1 * y2 < (y1 * x2.fdiv y2) * y2 := Int.mul_lt_mul_of_pos_right a h2
  have c : (y2 * x2.fdiv y2) * y1 ≤ x2 * y1 := Int.mul_le_mul_of_nonneg_right (by omega) (by omega)
  rw [show (y1 * x2.fdiv y2) * y2 = (y2 * x2.fdiv y2) * y1 from by ac_rfl] at b
  omega
theorem ord_eq {x1 y1 x2 y2 : Int} (h : x1.fdiv y1 = x2.fdiv y2) : x1 * y2 - x2 * y1 = y2 * x1.fmod y1 - y1 * x2.fmod y2 := by
  have e1 := Int.mul_fdiv_add_fmod x1 y1
  have e2 := Int.mul_fdiv_add_fmod x2 y2
  rw [h] at e1
  generalize x2.fdiv y2 = q at *
  generalize x1.fmod y1 = r1 at *
  generalize x2.fmod y2 = r2 at *
  subst e1 e2
  rw [Int.add_mul, Int.add_mul, show y1 * q * y2 = y2 * q * y1 from by ac_rfl, Int.mul_comm r1, Int.mul_comm r2]
  omega
theorem ord_ne {x1 y1 x2 y2 : Int} (h1 : 0 < y1) (h2 : 0 < y2) (h : x1.fdiv y1 ≠ x2.fdiv y2) : sgOrd (x1, y1) (x2, y2) (x1.fdiv y1 - x2.fdiv y2) := by
  unfold sgOrd; dsimp only
  rcases Int.lt_or_gt_of_ne h with q | q
  · have := ord_lt h1 h2 q; omega
  · have := ord_lt h2 h1 q; omega
theorem ord_zero {x1 y1 x2 y2 : Int} (h1 : 0 < y1) (h2 : 0 < y2) (h : x1.fdiv y1 = x2.fdiv y2) (hz : x1.fmod y1 = 0 ∨ x2.fmod y2 = 0) : sgOrd (x1, y1) (x2, y2) (b2i (x1.fmod y1 != 0) - b2i (x2.fmod y2 != 0)) := by
  unfold sgOrd; dsimp only
  have e := ord_eq h
  have r1 := Int.fmod_nonneg_of_pos x1 h1
  have r2 := Int.fmod_nonneg_of_pos x2 h2
  generalize x1.fmod y1 = a at *
  generalize x2.fmod y2 = b at *
  have b0 : b2i ((0 : Int) != 0) = 0 := rfl
  have bp : ∀ c : Int, 0 ≤ c → c ≠ 0 → b2i (c != 0) = 1 := fun c _ hc => by rw [show (c != 0) = true from by simpa using hc]; rfl
  by_cases ha : a = 0
  · subst ha
    by_cases hb : b = 0
    · subst hb; rw [b0]; simp at e; omega
    · rw [b0, bp b r2 hb]; have := Int.mul_pos h1 (show 0 < b by omega); rw [Int.mul_zero] at e; omega
  · have hb : b = 0 := hz.resolve_left ha
    subst hb
    rw [b0, bp a r1 ha]; have := Int.mul_pos h2 (show 0 < a by omega); rw [Int.mul_zero] at e; omega
theorem ord_rec {x1 y1 x2 y2 c : Int} (h : x1.fdiv y1 = x2.fdiv y2) (hs : sgOrd (y2, x2.fmod y2) (y1, x1.fmod y1) c) : sgOrd (x1, y1) (x2, y2) c := by
  unfold sgOrd at hs ⊢; dsimp only at hs ⊢
  have e := ord_eq h
  omega
theorem ki_two {G : Frag} {g h : Heap} {L D1 D2 : Addr} {m : Str → Option Value} {o1 o2 : Obj} {R : List (Addr × Obj)} (X : InW G g) (F : Fr g L h m) (N : News g L h ((D2, o2) :: (D1, o1) :: R)) (l1 : ∀ p ∈ R, p.1 < D1) (l2 : ∀ p ∈ (D1, o1) :: R, p.1 < D2) :
    KI ((D2, o2) :: (D1, o1) :: G) h R ∧ List.lookup D2 ((D2, o2) :: (D1, o1) :: G) = some o2 ∧ List.lookup D1 ((D2, o2) :: (D1, o1) :: G) = some o1 := by
  have hne : (D1 == D2) = false := beq_false_of_ne (Nat.ne_of_lt (l2 _ (.head _)))
  refine ⟨fun b o e => ?_, by rw [List.lookup_cons, beq_self_eq_true], by rw [List.lookup_cons, hne, List.lookup_cons, beq_self_eq_true]⟩
  rw [List.lookup_cons] at e
  cases q : b == D2 with
  | true =>
    rw [q] at e; cases e
    obtain rfl := eq_of_beq q
    exact ⟨(N _ (.head _)).1, fun p hp => Nat.ne_of_lt (l2 p (.tail _ hp))⟩
  | false =>
    rw [q, List.lookup_cons] at e
    cases q1 : b == D1 with
    | true =>
      rw [q1] at e; cases e
      obtain rfl := eq_of_beq q1
      exact ⟨(N _ (.tail _ (.head _))).1, fun p hp => Nat.ne_of_lt (l1 p hp)⟩
    | false =>
      rw [q1] at e
      exact kiOf X F (fun p hp => N p (.tail _ (.tail _ hp))) b o e
theorem rulesLO : True := by
  k_with_none
  k_with "call ref" => refine stop ?_
  k_with "newTuple" => refine stop ?_
  k_with "subscriptTail Name" => (k_here; (refine' tup0 (by assumption) (by k_asm) (by assumption) ?_))
  k_with "subscriptTail Name" => (k_here; (refine' tup1 (by assumption) (by k_asm) (by assumption) ?_))
  trivial
theorem order1 (w : World) (Wa : List (Addr × Obj)) (hWa : ∀ p ∈ Wa, p.1 ≠ 30 ∧ p.1 ≠ 37) : ∀ (k : Nat) (G : Frag) (v1 v2 : Value) (a1 a2 : Int × Int) (W : List (Addr × Obj)) (ps30 ps37 : Array Value),
    k < 200 → FracIn G v1 a1 → FracIn G v2 a2 → OkF k a1 → OkF k a2 → T30 ps30 W → T37 ps37 W → (∀ p ∈ W, p.1 ≠ 30 ∧ p.1 ≠ 37) →
    CtG w G (call (.ref 107) [v1, v2]) (330 + k) ((30, tabObj ps30) :: (37, tabObj ps37) :: (Wa ++ W)) (fun r news' => RetG Wa W (fun r => ∃ c t, r = .int c t ∧ sgOrd a1 a2 c) r news' ∧ ∀ b o, G.lookup b = some o → ∀ p ∈ news', p.1 ≠ b)
  | 0, _, _, _, _, _, _, _, _, _, _, _, ok, _, _, _, _ => by obtain ⟨_, _, h1, h2, _⟩ := ok; omega
  | k + 1, G, v1, v2, (x1, y1), (x2, y2), W, ps30, ps37, hk200, hf1, hf2, ok1, ok2, h30, h37, hW => by
    obtain ⟨p1, t11, t12, rfl, hp1⟩ := hf1
    obtain ⟨p2, t21, t22, rfl, hp2⟩ := hf2
    obtain ⟨b1, b2, b3, b4, b5⟩ := ok1
    obtain ⟨c1, c2, c3, c4, c5⟩ := ok2
    dsimp only at b1 b2 b3 b4 b5 c1 c2 c3 c4 c5 hp1 hp2
    unfold CtG; k_fill
    intro p loose mean mg mb dp un gd cn cs a ccd cl outer A₀ base h₀ L m s Q E B C1 C2 C3 F X KIh N T hk hd hu hret
    refine wpAny_call ?_
    k_dflt (refine' codeDefF ?k1 ?k2 ?k3 ?k4 ?k5 ?kA ?kF ?kK ?k6 ?k7 ?k8 ?k9 ?kB ?_ ?c2 ?c3 ?c4 ?c5; (case kA => exact rfl); (case kF => exact rfl); (case kK => assumption); (case k1 => k_asm); (case k2 => k_asm); (case k3 => k_asm); (case k4 => k_asm); (case k5 => k_asm); (case k6 => k_is); (case k7 => k_is); (case k8 => k_room); (case k9 => exact BindsTo.of_eq rfl); (case kB => exact locs rfl); (case c2 => exact rfl); (case c3 => exact rfl); (case c4 => exact rfl); (case c5 => decide); intro g' L' h' FG' F' N' B' X' T' K1'; (try dsimp only); (try k_lift B'); (try k_fold))
    have XK := inOf KIh K1'
    w_strict k_steps
    unfold Stop
    k_dflt (refine' idm w _ ps30 ps37 x1 y1 _ _ ?p1 ?p2 ?p3 ?p4 ?p5 ?p6 ?p7 ?p8 _ _ _ _ _ _ _ _ _ _ _ _ _ _ _ _ _ _ _ _ _ _ ?pk1 ?pc1 ?pc2 ?pc3 ?pk2 ?pk3 ?pk4 ?pk5 ?pkK ?pkd ?pku ?_; (case pk1 => k_asm); (case pk2 => k_asm); (case pk3 => k_asm); (case pk4 => k_asm); (case pk5 => k_asm); (case pkK => first | exact rfl | assumption))
    (case p1 => omega)
    (case p2 => omega)
    (case p3 => omega)
    (case p4 => omega)
    (case p5 => exact t30_mono h30 fun p hp => List.mem_append_right _ hp)
    (case p6 => exact t37_mono h37 fun p hp => List.mem_append_right _ hp)
    (case p7 => exact fun p hp => (List.mem_append.mp hp).elim (fun q => (hWa p q).1) fun q => (hW p q).1)
    (case p8 => exact fun p hp => (List.mem_append.mp hp).elim (fun q => (hWa p q).2) fun q => (hW p q).2)
    (case pc1 => assumption)
    (case pc2 => assumption)
    (case pc3 => assumption)
    (case pkd => dsimp only [ktrTop]; omega)
    (case pku => dsimp only [ktrTop]; omega)
    refine retQ_use h30 h37 hW ?_
    intro ps30' ps37' W1 t t1 t2 h9 tk9 F9 N9 hT30 hT37 hG1 hW1 hmt
    replace hmt := List.mem_append_right Wa hmt
    dsimp only
    w_strict k_steps
    unfold Stop
    k_dflt (refine' idm w _ ps30' ps37' x2 y2 _ _ ?q1 ?q2 ?q3 ?q4 ?q5 ?q6 ?q7 ?q8 _ _ _ _ _ _ _ _ _ _ _ _ _ _ _ _ _ _ _ _ _ _ ?qk1 ?qc1 ?qc2 ?qc3 ?qk2 ?qk3 ?qk4 ?qk5 ?qkK ?qkd ?qku ?_; (case qk1 => k_asm); (case qk2 => k_asm); (case qk3 => k_asm); (case qk4 => k_asm); (case qk5 => k_asm); (case qkK => first | exact rfl | assumption))
    (case q1 => omega)
    (case q2 => omega)
    (case q3 => omega)
    (case q4 => omega)
    (case q5 => exact t30_mono hT30 fun p hp => List.mem_append_right _ hp)
    (case q6 => exact t37_mono hT37 fun p hp => List.mem_append_right _ hp)
    (case q7 => exact fun p hp => (List.mem_append.mp hp).elim (fun q => (hWa p q).1) fun q => (hW1 p q).1)
    (case q8 => exact fun p hp => (List.mem_append.mp hp).elim (fun q => (hWa p q).2) fun q => (hW1 p q).2)
    (case qc1 => assumption)
    (case qc2 => assumption)
    (case qc3 => assumption)
    (case qkd => dsimp only [ktrTop]; omega)
    (case qku => dsimp only [ktrTop]; omega)
    refine retQ_use hT30 hT37 hW1 ?_
    intro ps30'' ps37'' W2 u u1 u2 h10 tk10 F10 N10 hT30' hT37' hG2 hW2 hmu
    replace hmu := List.mem_append_right Wa hmu
    have hKI := kiOf XK F10 N10
    dsimp only
    w_strict k_steps
    rotate_left 3
    · unfold Stop
      refine kup_newTuple (by k_asm) (by k_asm) ?_ (Nat.le_of_ble_eq_true rfl)
      intro D1 hD1 FD1 ND1 lD1
      dsimp only
      w_strict k_steps
      unfold Stop
      refine kup_newTuple (by k_asm) (by k_asm) ?_ (Nat.le_of_ble_eq_true rfl)
      intro D2 hD2 FD2 ND2 lD2
      dsimp only
      w_strict k_steps
      unfold Stop
      obtain ⟨kiN, lk2, lk1⟩ := ki_two (G := G) XK FD2 ND2 lD1 lD2
      have r1p := Int.fmod_nonneg_of_pos x1 b3
      have r2p := Int.fmod_nonneg_of_pos x2 c3
      have r1l := Int.fmod_lt_of_pos x1 b3
      have r2l := Int.fmod_lt_of_pos x2 c3
      k_dflt (refine' order1 w Wa hWa k _ (.ref D1) (.ref D2) (y2, x2.fmod y2) (y1, x1.fmod y1) W2 ps30'' ps37'' ?r1 ⟨D1, _, _, rfl, lk1⟩ ⟨D2, _, _, rfl, lk2⟩ ?r4 ?r5 hT30' hT37' hW2 _ _ _ _ _ _ _ _ _ _ _ _ _ _ _ _ _ _ _ _ _ _ ?rk1 ?rc1 ?rc2 ?rc3 ?rk2 ?rk3 kiN (fun p hp => ND2 p (.tail _ (.tail _ hp))) ?rk5 ?rkK ?rkd ?rku ?_; (case rk1 => k_asm); (case rk2 => k_asm); (case rk3 => k_asm); (case rk5 => k_asm); (case rkK => first | exact rfl | assumption))
      (case r1 => omega)
      (case r4 => refine ⟨?_, ?_, ?_, ?_, ?_⟩ <;> dsimp only <;> omega)
      (case r5 => refine ⟨?_, ?_, ?_, ?_, ?_⟩ <;> dsimp only <;> omega)
      (case rc1 => assumption)
      (case rc2 => assumption)
      (case rc3 => assumption)
      (case rkd => dsimp only [ktrTop]; omega)
      (case rku => dsimp only [ktrTop]; omega)
      rintro r9 news9 h11 tk11 F11 N11 _ ⟨⟨qs30, qs37, W3, rfl, u30, u37, hG3, hW3, cc, tt, rfl, hs⟩, _⟩
      have hKI := kiOf XK F11 N11
      dsimp only
      w_strict k_steps
      exact hret _ _ _ _ (by k_asm) (by k_asm) (kept_ K1' (by k_asm)) ⟨⟨qs30, qs37, W3, rfl, u30, u37, (hG1.trans hG2).trans hG3, hW3, _, _, rfl, ord_rec (by assumption) hs⟩, fun b o e => (hKI b o e).2⟩
    · exact hret _ _ _ _ (by k_asm) (by k_asm) (kept_ K1' (by k_asm)) ⟨⟨ps30'', ps37'', W2, rfl, hT30', hT37', hG1.trans hG2, hW2, _, _, rfl, ord_ne b3 c3 (by assumption)⟩, fun b o e => (hKI b o e).2⟩
    all_goals exact hret _ _ _ _ (by k_asm) (by k_asm) (kept_ K1' (by k_asm)) ⟨⟨ps30'', ps37'', W2, rfl, hT30', hT37', hG1.trans hG2, hW2, _, _, rfl, ord_zero b3 c3 (by assumption) (by first | exact .inl (by assumption) | exact .inr (by assumption))⟩, fun b o e => (hKI b o e).2⟩
end Mine
end SecLO
section SecC3
theorem Mine.offC3 : True := by
  w_top off
  k_with_none
  trivial
open PySem PySem.W PyProof.Rows PySem.Spec PySem.Calls
set_option maxRecDepth 100000
set_option maxHeartbeats 2000000
namespace Mine
section
variable {prog : Program} {w : World} {A : Around} {E : Value → Shared → Prop} {s : Shared}
theorem tupLt2 {Q : Value → Shared → Prop} {a b : Addr} {x1 x2 y1 y2 : Value} (ha : s.heap.get? a = some (tupO #[x1, x2])) (hb : s.heap.get? b = some (tupO #[y1, y2])) (hu : A.units < cLine)
    (h : wpAny (model prog w) A.in1 (eqBool x1 y1) (fun e s1 => if e = true then
        wpAny (model prog w) A.in1 (eqBool x2 y2) (fun e s2 => if e = true then Q (.bool false) s2
          else wpAny (model prog w) A.in1 (richCompare .Lt x2 y2) (fun v s' => v ≠ .notImplemented ∧ Q v s') E s2) E s1
        else wpAny (model prog w) A.in1 (richCompare .Lt x1 y1) (fun v s' => v ≠ .notImplemented ∧ Q v s') E s1) E s) :
    wpAny (model prog w) A (richCompare .Lt (.ref a) (.ref b)) Q E s := by
  have hTa : s.TypeIs (.ref a) "tuple" := ⟨_, ha, rfl⟩
  have hTb : s.TypeIs (.ref b) "tuple" := ⟨_, hb, rfl⟩
  refine wpAny_richCompare_same_room hTa hTb F.slot_tuple_lt (wpAny_call_entry F.slot_tuple_lt hTa F.entry_tuple_lt ?_ (F.args_tuple_lt_2 _ _)) hu
  show wpAny _ _ (isInstance (.ref b) (.type "tuple") >>= _) _ _ s
  refine wpAny_bind (wpAny_isInstance hTb isSubtype_tuple_tuple ?_)
  simp only [Bool.not_true, Bool.false_eq_true, if_false]
  refine wpAny_bind (wpAny_tupleItemsOf ha rfl ?_)
  refine wpAny_bind (wpAny_tupleItemsOf hb rfl ?_)
  refine wpAny_bind ?_
  simp only [List.zip_cons_cons, List.zip_nil_right, List.forIn_cons, List.forIn_nil]
  refine wpAny_bind (wpAny_bind (wpAny_mono h (fun e s1 h1 => ?_) fun _ _ e => e))
  cases e with
  | false =>
    simp only [Bool.false_eq_true, if_false] at h1
    simp only [Bool.not_false, if_true]
    refine wpAny_bind (wpAny_rule (wpAny_bind (wpAny_mono h1 (fun v s' hv => ?_) fun _ _ e => e)))
    exact wpAny_bind (wpAny_pure (wpAny_pure (wpAny_pure (wpAny_pure ⟨v, rfl, hv⟩))))
  | true =>
    simp only [if_true] at h1
    simp only [Bool.not_true, Bool.false_eq_true, if_false]
    refine wpAny_pure ?_
    refine wpAny_bind (wpAny_bind (wpAny_mono h1 (fun e s2 h2 => ?_) fun _ _ e => e))
    cases e with
    | false =>
      simp only [Bool.false_eq_true, if_false] at h2
      simp only [Bool.not_false, if_true]
      refine wpAny_bind (wpAny_rule (wpAny_bind (wpAny_mono h2 (fun v s' hv => ?_) fun _ _ e => e)))
      exact wpAny_bind (wpAny_pure (wpAny_pure (wpAny_pure (wpAny_pure ⟨v, rfl, hv⟩))))
    | true =>
      simp only [if_true] at h2
      simp only [Bool.not_true, Bool.false_eq_true, if_false]
      refine wpAny_pure ?_
      exact wpAny_pure (wpAny_pure ⟨_, rfl, (fun e => by cases e), h2⟩)
theorem eqBoolRef {k1 k2 : Addr} {Q : Bool → Shared → Prop} (h1 : k1 = k2 → Q true s) (h2 : k1 ≠ k2 → wpAny (model prog w) A (richCompare .Eq (.ref k1) (.ref k2)) (fun v s' => ∃ b, v = .bool b ∧ Q b s') E s) :
    wpAny (model prog w) A (eqBool (.ref k1) (.ref k2)) Q E s := by
  unfold eqBool
  refine wpAny_holding ?_
  show wpAny _ _ (if (Value.ref k1 == Value.ref k2) = true then _ else _) Q E s
  by_cases hab : (Value.ref k1 == Value.ref k2) = true
  · rw [if_pos hab]
    have e : k1 = k2 := by have := eq_of_beq hab; injection this
    exact wpAny_bind (wpAny_rule (wpAny_pure (h1 e)))
  · rw [if_neg hab]
    have e : k1 ≠ k2 := fun q => hab (by rw [q]; simp)
    show wpAny _ _ (richCompare .Eq (.ref k1) (.ref k2) >>= fun v => truthOfDropped v) Q E s
    refine wpAny_bind (wpAny_mono (h2 e) (fun v s' hv => ?_) fun _ _ e => e)
    obtain ⟨b, rfl, hq⟩ := hv
    exact wpAny_truthy_bool hq
end
/-- the ledger's part that int_divmod works on -/
inductive InvT (W : List (Addr × Obj)) : Prop
  | mk (ps30 ps37 : Array Value) (W0 : List (Addr × Obj)) (h1 : W = (30, tabObj ps30) :: (37, tabObj ps37) :: W0) (h2 : T30 ps30 W0) (h3 : T37 ps37 W0) (h4 : ∀ p ∈ W0, p.1 ≠ 30 ∧ p.1 ≠ 37)
/-- .. and that is off all that G holds -/
def InvD (G : Frag) (W : List (Addr × Obj)) : Prop := InvT W ∧ ∀ b o, G.lookup b = some o → ∀ p ∈ W, p.1 ≠ b
def valF (G : Frag) (v : Value) (a : Int × Int) : Prop := FracIn G v a ∧ OkF 64 a
theorem order_my (w : World) (G : Frag) : MyOk w G 107 (InvD G) (valF G) sgOrd 394 := by
  intro v1 a1 v2 a2 H o W h1 h2 hI hW
  obtain ⟨⟨ps30, ps37, W0, rfl, t30, t37, off⟩, hoff⟩ := hI
  intro p loose mean mg mb dp un gd cn cs a ccd cl outer A₀ base h₀ L m s Q E B C1 C2 C3 F X KIh N T hk hd hu hret
  have pm : ∀ {W0 : List (Addr × Obj)} {a b : Obj} {q : Addr × Obj}, q ∈ (30, a) :: (37, b) :: ([(H, o)] ++ W0) → q ∈ (H, o) :: (30, a) :: (37, b) :: W0 := fun {W0 a b q} hq => by
    simp only [List.mem_cons, List.mem_append, List.not_mem_nil, or_false] at hq ⊢
    rcases hq with h | h | h | h <;> simp [h]
  have pm' : ∀ {W0 : List (Addr × Obj)} {a b : Obj} {q : Addr × Obj}, q ∈ (H, o) :: (30, a) :: (37, b) :: W0 → q ∈ (30, a) :: (37, b) :: ([(H, o)] ++ W0) := fun {W0 a b q} hq => by
    simp only [List.mem_cons, List.mem_append, List.not_mem_nil, or_false] at hq ⊢
    rcases hq with h | h | h | h <;> simp [h]
  have hH : ∀ q ∈ [(H, o)], q.1 ≠ 30 ∧ q.1 ≠ 37 := fun q hq => by
    obtain rfl := List.mem_singleton.mp hq
    exact ⟨Ne.symm (hW (30, _) (.head _)), Ne.symm (hW (37, _) (.tail _ (.head _)))⟩
  refine order1 w [(H, o)] hH 64 G v1 v2 a1 a2 W0 ps30 ps37 (by decide) h1.1 h2.1 h1.2 h2.2 t30 t37 off p loose mean mg mb dp un gd cn cs a ccd cl outer A₀ base h₀ L m s Q E B C1 C2 C3 F X (fun b o e => ⟨(KIh b o e).1, fun q hq => (KIh b o e).2 q (pm hq)⟩) (fun q hq => N q (pm hq)) T hk hd hu ?_
  rintro r news' h' tk' F' N' K' ⟨⟨qs30, qs37, W3, rfl, u30, u37, gr, off', c, t, rfl, hs⟩, hoff'⟩
  refine hret _ _ _ _ F' (fun q hq => N' q (pm' hq)) (fun b o e ne => K' b o e fun q hq => ne q (pm hq)) ⟨c, t, _, rfl, rfl, ⟨⟨qs30, qs37, W3, rfl, u30, u37, off'⟩, fun b o e q hq => hoff' b o e q (pm' (.tail _ hq))⟩, fun q hq => ?_, hs⟩
  rcases List.mem_cons.mp hq with rfl | hq
  · exact hW (30, tabObj ps30) (.head _)
  · rcases List.mem_cons.mp hq with rfl | hq
    · exact hW (37, tabObj ps37) (.tail _ (.head _))
    · exact gr.off (List.mem_singleton.mpr rfl) (fun p hp => hW p (.tail _ (.tail _ hp))) q hq
/-- items: a tuple of a key and its place -/
def It2 (G : Frag) (C : Addr) (fs : List (Int × Int)) (v : Addr) (i : Nat) : Prop :=
  ∃ k t vf, G.lookup v = some (tupO #[.ref k, .int (i : Int) t]) ∧ KeyIn G C k vf ∧ valF G vf (fs.getD i (0, 1))
def lessF (a b : Int × Int) : Prop := a.1 * b.2 < b.1 * a.2
def likeF (a b : Int × Int) : Prop := a.1 * b.2 = b.1 * a.2
def preF (fs : List (Int × Int)) (i j : Nat) : Prop := lessF (fs.getD i (0, 1)) (fs.getD j (0, 1)) ∨ (likeF (fs.getD i (0, 1)) (fs.getD j (0, 1)) ∧ i ≤ j)
theorem cmp2 (w : World) (KF G : Frag) (C d fI fL fE cel : Addr) (kc : KC w.params KF C d fI fL fE cel 107) (sub : Sub KF G) (fs : List (Int × Int)) : CmpOk w G (InvD G) (It2 G C fs) (preF fs) 410 := by
  intro v1 a1 v2 a2 H o W h1 h2 hI hW
  obtain ⟨k1, t1, f1, hv1, hk1, hf1⟩ := h1
  obtain ⟨k2, t2, f2, hv2, hk2, hf2⟩ := h2
  unfold preF
  unfold CtH
  intro p loose mean mg mb dp un gd cn cs a ccd cl outer A₀ base h₀ L m s Q E B C1 C2 C3 F X XG N T hk hd hu hret
  have XF : KF.In h₀ := fun b o e => XG b o (sub b o e)
  have at_ : ∀ {h : Heap}, Fr h₀ L h m → InW G h := fun F => inW_keeps XG F
  have hd1 : recursionLimit = 1000 := rfl
  have hcL : cLine = 9900 := rfl
  have inst : ∀ {h : Heap} {k : Addr} {v : Value}, Fr h₀ L h m → KeyIn G C k v → ∃ ox, InstAt h k ox C (some emptyDict) := fun F ⟨dx, e1, e2⟩ => ⟨_, instOf (at_ F) e1 e2⟩
  have hh : ∀ {v : Value} {a : Int × Int}, valF G v a → handedIn v = true := fun ⟨⟨_, _, _, e, _⟩, _⟩ => by rw [e]; rfl
  refine cmp_ofLt (tupLt2 (at_ F _ _ hv1) (at_ F _ _ hv2) (show un < cLine by omega) ?_)
  -- the tie: fractions alike
  have tie : ∀ (s1 : Shared) h' tk' W', s1 = { s with heap := h', toks := tk' } → Fr h₀ L h' m → News h₀ L h' ((H, o) :: W') → InvD G W' → (∀ p ∈ W', p.1 ≠ H) → likeF (fs.getD a1 (0, 1)) (fs.getD a2 (0, 1)) →
      wpAny (model PySem.Challenge.rw_nq0126_02.row.prog w) (ktrTop dp un gd cn cs L a ccd cl outer).in1 (eqBool (.int (a1 : Int) t1) (.int (a2 : Int) t2)) (fun e s2 => if e = true then Q (.bool false) s2
          else wpAny (model PySem.Challenge.rw_nq0126_02.row.prog w) (ktrTop dp un gd cn cs L a ccd cl outer).in1 (richCompare .Lt (.int (a1 : Int) t1) (.int (a2 : Int) t2)) (fun v s' => v ≠ .notImplemented ∧ Q v s') E s2) E s1 := by
    rintro s1 h' tk' W' rfl F' N' hI' hW' e
    have e' : likeF (fs.getD a2 (0, 1)) (fs.getD a1 (0, 1)) := e.symm
    have done : ∀ x, (if x = true then a1 ≤ a2 else a2 ≤ a1) → Q (.bool x) { s with heap := h', toks := tk' } := fun x hx => hret _ _ _ _ F' N' ⟨x, W', rfl, rfl, hI', hW', by
      cases x
      · simp only [Bool.false_eq_true, if_false] at hx ⊢; exact .inr ⟨e', hx⟩
      · simp only [if_true] at hx ⊢; exact .inr ⟨e, hx⟩⟩
    refine wpAny_eqBool_int ?_
    by_cases q : a1 = a2
    · rw [show ((a1 : Int) == (a2 : Int)) = true from by simp [q]]
      simp only [if_true]
      exact done false (by simp [q])
    · rw [show ((a1 : Int) == (a2 : Int)) = false from by simpa using (by omega : ¬ (a1 : Int) = (a2 : Int))]
      simp only [Bool.false_eq_true, if_false]
      refine (show wpAny _ _ (compareOp .Lt (.int (a1 : Int) t1) (.int (a2 : Int) t2)) _ _ _ from wpAny_lt_int ⟨(fun e => by cases e), done _ ?_⟩)
      by_cases q2 : (a1 : Int) < (a2 : Int)
      · rw [decide_eq_true q2]; simp only [if_true]; omega
      · rw [decide_eq_false q2]; simp only [Bool.false_eq_true, if_false]; omega
  refine eqBoolRef (fun e => ?_) fun hne => ?_
  · simp only [if_true]
    subst e
    obtain ⟨dx, e1, _⟩ := hk1
    obtain ⟨dx', e1', _⟩ := hk2
    rw [e1] at e1'
    have e : f1 = f2 := by injection e1' with e1'; injection e1' with _ _ _ e4; injection e4 with e4; injection e4 with e4; injection e4 with e4
    subst e
    refine tie s s.heap s.toks W rfl F N hI hW ?_
    obtain ⟨⟨p1, _, _, rfl, l1⟩, _⟩ := hf1
    obtain ⟨⟨p2, _, _, e2, l2⟩, _⟩ := hf2
    injection e2 with e2
    subst e2
    rw [l1] at l2
    injection l2 with l2
    injection l2 with _ _ l2
    injection l2 with l2
    injection l2 with l2
    injection l2 with l2 l3
    injection l3 with l3
    injection l2 with l2
    injection l3 with l3
    unfold likeF
    rw [l2, l3]
  obtain ⟨ox1, I1⟩ := inst F hk1
  obtain ⟨ox2, I2⟩ := inst F hk2
  refine cmp_K (op := .Eq) (K := KF) (show un + 1 < cLine by omega) F XF I1 I2.type (by simp [notFirst]) kc.eq kc.eqF ?_
  refine kEq w KF G C d fI fL fE cel kc sub (InvD G) (valF G) sgOrd 394 (order_my w G) k1 k2 _ _ _ _ H o W hk1 hk2 hf1 hf2 (hh hf1) (hh hf2) hI hW p loose mean mg mb dp (un + 1) gd cn cs a ccd cl outer A₀ base h₀ L m s _ _ B C1 C2 C3 F X (kiOf XG F N) N T hk (by omega) (by omega) ?_
  rintro _ _ h2 tk2 F2 N2 KP2 ⟨c, W2, rfl, hs2, rfl, hI2, hW2⟩
  refine ⟨_, rfl, ?_⟩
  by_cases hc : c = 0
  · rw [decide_eq_true hc]; simp only [if_true]
    exact tie _ h2 tk2 W2 rfl F2 N2 hI2 hW2 (hs2.2.mp hc)
  · rw [decide_eq_false hc]; simp only [Bool.false_eq_true, if_false]
    obtain ⟨ox1, I1⟩ := inst F2 hk1
    obtain ⟨ox2, I2⟩ := inst F2 hk2
    refine cmp_K (op := .Lt) (K := KF) (show un + 1 < cLine by omega) F2 XF I1 I2.type (by simp [notFirst]) kc.lt kc.ltF ?_
    refine kLt w KF G C d fI fL fE cel kc sub (InvD G) (valF G) sgOrd 394 (order_my w G) k1 k2 _ _ _ _ H o W2 hk1 hk2 hf1 hf2 (hh hf1) (hh hf2) hI2 hW2 p loose mean mg mb dp (un + 1) gd cn cs a ccd cl outer A₀ base h₀ L m _ _ _ B C1 C2 C3 F2 X (kiOf XG F2 N2) N2 T hk (by omega) (by omega) ?_
    rintro _ _ h3 tk3 F3 N3 KP3 ⟨c3, W3, rfl, hs3, rfl, hI3, hW3⟩
    refine ⟨(fun e => by cases e), hret _ _ _ _ F3 N3 ⟨_, W3, rfl, rfl, hI3, hW3, ?_⟩⟩
    by_cases h3 : c3 < 0
    · rw [decide_eq_true h3]; simp only [if_true]; exact .inl (hs3.1.mp h3)
    · rw [decide_eq_false h3]; simp only [Bool.false_eq_true, if_false]
      have q0 : c3 ≠ 0 := fun q => hc (hs2.2.mpr (hs3.2.mp q))
      have q1 := hs3.1
      have q2 := hs3.2
      unfold lessF
      left; omega
end Mine
end SecC3
section SecCJ
theorem Mine.offCJ : True := by
  w_top off
  k_with_none
  trivial
open PySem PySem.W PyProof.Rows PySem.Spec PySem.Calls PyProof.Rows.LCg
set_option maxRecDepth 100000
set_option maxHeartbeats 8000000
namespace Mine
section
variable {prog : Program} {w : World} {A : Around} {E : Value → Shared → Prop} {s : Shared} {h₀ : Heap} {L : Addr} {m : Str → Option Value} {env : Env}
/-- a comprehension by an invariant that the elements may move -/
theorem comp_indJ {elt : Expr} {x : Str} {scope : Scope} {cl : List (Str × Addr)} {S : List (Addr × Obj) → Prop} {P : Nat → Value → Prop} {Fin : List Value → List (Addr × Obj) → Prop} {N : Nat} (J : Nat → List Value → List (Addr × Obj) → Prop)
    (step : ∀ i ys news v I oI C oC D m₂ h tk (E' : Value → Shared → Prop), i < N → Fr h₀ L h m → News h₀ L h ((I, oI) :: (C, oC) :: (D, lst ys) :: news) → J i ys news → P i v → NsObj oC m₂ → m₂ x = some v → (∀ p ∈ news, p.1 ≠ I ∧ p.1 ≠ C ∧ p.1 ≠ D) → ((@Ne Nat I C) ∧ (@Ne Nat I D) ∧ (@Ne Nat C D)) →
      wpAny (model prog w) A (eval elt (compEnvC scope cl C env)) (CompEnd h₀ L m { s with heap := h, toks := tk } I oI C oC D (lst ys) S (fun y news' => J (i + 1) (ys ++ [y]) news')) E' { s with heap := h, toks := tk })
    (fin : ∀ ys news, J N ys news → Fin ys news) :
    ∀ (k i : Nat) (ys : List Value) (news : List (Addr × Obj)), i + k = N → J i ys news → CompRest prog w A h₀ L m env elt x scope cl s S P Fin k i ys news
  | 0, i, ys, news, hN, hJ => CompRest.zero (fin ys news (by rw [← hN, Nat.add_zero]; exact hJ))
  | k + 1, i, ys, news, hN, hJ => CompRest.succ fun v I oI C oC D m₂ h tk E' hv hC hx F N' off ne => by
    refine wpAny_mono (step i ys news v I oI C oC D m₂ h tk E' (by omega) F N' hJ hv hC hx off.mem ne) (fun y s₂ hq => ?_) fun _ _ e => e
    obtain ⟨h', tk', news', rfl, F', N', off', hS, hJ'⟩ := hq
    exact ⟨h', tk', news', rfl, F', N', off', hS, comp_indJ J step fin k (i + 1) _ news' (by omega) hJ'⟩
end
end Mine
end SecCJ
section SecLL
theorem Mine.offLL : True := by
  w_top off
  k_with_none
  trivial
open PySem PySem.W PyProof.Rows PySem.Spec PySem.Calls
set_option maxRecDepth 100000
set_option maxHeartbeats 16000000
namespace Mine
theorem rulesLL : True := by
  k_with_none
  k_with "call ref" => refine stop ?_
  k_with "newList" => refine stop ?_
  k_with "exec For Name Call cons nil" => refine stop ?_
  k_with "exec For Name Call" => refine stop ?_
  k_with "callWith ref" => ((with_reducible show wpAny _ _ (callWith _ (Value.ref Cc) _ _ _) _ _ _); refine stop ?_)
  k_with "call builtin:len" => (k_here; (refine' lenList (by k_asm) (by k_mem) (by assumption) (by assumption) ?_); intro t9 tk9)
  k_with "eval Name" => (k_here; k_dflt (refine' nmL (by k_asm) (by rfl) (by rfl) (by first | exact rfl | assumption) ?_; k_whole))
  k_with "subscriptTail Name" => refine stop ?_
  k_with "subscriptTail" => refine stop ?_
  k_with "CompSrc" => refine stop ?_
  k_with "CompEnd" => refine stop ?_
  k_with "FinE" => refine stop ?_
  k_with "newTuple" => refine stop ?_
  k_with "FSrc" => refine stop ?_
  trivial
/-- the fractions' tuples -/
def PairsIn (W : List (Addr × Obj)) (vs : List Value) (fs : List (Int × Int)) : Prop := vs.length = fs.length ∧ ∀ i, i < fs.length → ∃ p t1 t2, vs[i]? = some (.ref p) ∧ (p, pairObj (fs.getD i (0, 1)).1 (fs.getD i (0, 1)).2 t1 t2) ∈ W
def Disj (A B : List (Addr × Obj)) : Prop := ∀ p ∈ A, ∀ q ∈ B, q.1 ≠ p.1
inductive LlJ (P : Params) (KF : Frag) (Cc Hl ch Fl : Addr) (vs : List Value) (fs : List (Int × Int)) (kk : Nat) (W0 : List (Addr × Obj)) (i : Nat) (m : Str → Option Value) (news : List (Addr × Obj)) : Prop
  | mk (zs : List (Addr × Nat)) (c : Nat) (V W : List (Addr × Obj)) (ps30 ps37 : Array Value) (oc : Obj) (w1 : m (Str.ofString "key") = some (.ref Cc)) (w2 : m (Str.ofString "fractions") = some (.ref Fl)) (w3 : oc.data = .cell (some (.ref Hl)))
    (w4 : news = (Hl, listOf (refs zs).toArray c) :: (ch, oc) :: (Fl, listOf vs.toArray kk) :: (30, tabObj ps30) :: (37, tabObj ps37) :: (V ++ W)) (w5 : T30 ps30 V) (w6 : T37 ps37 V) (w7 : ∀ p ∈ V, p.1 ≠ 30 ∧ p.1 ≠ 37)
    (w8 : Disj ((Hl, listOf (refs zs).toArray c) :: (30, tabObj ps30) :: (37, tabObj ps37) :: V) ((ch, oc) :: (Fl, listOf vs.toArray kk) :: W)) (w9 : ∀ p ∈ (30, tabObj ps30) :: (37, tabObj ps37) :: V, p.1 ≠ Hl)
    (w10 : Sub (KF ++ hd2.heap_39 P) (W ++ hd2.heap_39 P)) (w11 : ∀ p ∈ W0, p ∈ W) (w12 : HeapL (preZ (preF fs)) zs) (w13 : ∀ z ∈ zs, It2 (W ++ hd2.heap_39 P) Cc fs z.1 z.2) (w14 : (zs.map (·.2)).Perm (List.range i)) (w15 : ∀ q ∈ W, q.1 ≠ ch ∧ q.1 ≠ Fl)
inductive LlRet (Fl : Addr) (vs : List Value) (fs : List (Int × Int)) (kk : Nat) (W0 : List (Addr × Obj)) (r : Value) (news' : List (Addr × Obj)) : Prop
  | mk (D : Addr) (rs : List Value) (pl : List Nat) (c : Nat) (V : List (Addr × Obj)) (ps30 ps37 : Array Value) (w1 : r = .ref D) (w2 : news' = (D, listOf rs.toArray c) :: (Fl, listOf vs.toArray kk) :: (30, tabObj ps30) :: (37, tabObj ps37) :: (V ++ W0))
    (w3 : IntsAre rs (pl.map fun (i : Nat) => (i : Int))) (w4 : pl.Perm (List.range fs.length)) (w5 : pl.Pairwise (preF fs)) (w6 : T30 ps30 V) (w7 : T37 ps37 V) (w8 : ∀ p ∈ V, p.1 ≠ 30 ∧ p.1 ≠ 37) (w9 : Disj ((30, tabObj ps30) :: (37, tabObj ps37) :: V) ((Fl, listOf vs.toArray kk) :: W0)) (w10 : ∃ ps58, (58, tabObj ps58) ∈ V)
theorem skip5 {a b c d e f : Addr × Obj} {W : List (Addr × Obj)} {p : Addr × Obj} (h : p ∈ a :: b :: c :: d :: e :: W) : p ∈ a :: b :: c :: d :: e :: f :: W := by
  simp only [List.mem_cons] at h ⊢
  rcases h with h | h | h | h | h | h <;> simp [h]
theorem disj_of {Hl ch Fl : Addr} {o1 o2 o3 o4 o5 : Obj} {W : List (Addr × Obj)} (hH : ch < Hl ∧ Fl < Hl) (hc : 30 < ch ∧ 37 < ch) (hF : (30 : Addr) ≠ Fl ∧ (37 : Addr) ≠ Fl) (hW : ∀ p ∈ W, p.1 ≠ Hl ∧ p.1 ≠ ch ∧ p.1 ≠ Fl ∧ p.1 ≠ 30 ∧ p.1 ≠ 37) :
    Disj [(Hl, o1), (30, o2), (37, o3)] ((ch, o4) :: (Fl, o5) :: W) := fun p hp q hq => by
  simp only [List.mem_cons, List.not_mem_nil, or_false] at hp hq
  rcases hp with rfl | rfl | rfl <;> rcases hq with rfl | rfl | hq
  · exact Nat.ne_of_lt hH.1
  · exact Nat.ne_of_lt hH.2
  · exact (hW q hq).1
  · exact Nat.ne_of_gt hc.1
  · exact Ne.symm hF.1
  · exact (hW q hq).2.2.2.1
  · exact Nat.ne_of_gt hc.2
  · exact Ne.symm hF.2
  · exact (hW q hq).2.2.2.2
theorem tabs_off {Hl : Addr} {o2 o3 : Obj} (h : 30 < Hl ∧ 37 < Hl) : ∀ p ∈ [((30 : Addr), o2), (37, o3)], p.1 ≠ Hl := fun p hp => by
  simp only [List.mem_cons, List.not_mem_nil, or_false] at hp
  rcases hp with rfl | rfl
  · exact Nat.ne_of_lt h.1
  · exact Nat.ne_of_lt h.2
theorem llj_turn {P : Params} {KF : Frag} {Cc Hl ch Fl L : Addr} {h₀ : Heap} {vs : List Value} {fs : List (Int × Int)} {kk n : Nat} {W0 : List (Addr × Obj)} {G : Nat → (Str → Option Value) → Heap → Nat → Tok → Addr → Obj → (Value → Shared → Prop) → Prop}
    (k : ∀ i m h₁ tk t I oI E' zs c V W ps30 ps37 oc, i < n → Fr h₀ L h₁ m → News h₀ L h₁ ((I, oI) :: (Hl, listOf (refs zs).toArray c) :: (ch, oc) :: (Fl, listOf vs.toArray kk) :: (30, tabObj ps30) :: (37, tabObj ps37) :: (V ++ W)) →
      (∀ p ∈ (Hl, listOf (refs zs).toArray c) :: (ch, oc) :: (Fl, listOf vs.toArray kk) :: (30, tabObj ps30) :: (37, tabObj ps37) :: (V ++ W), p.1 ≠ I) →
      m (Str.ofString "key") = some (.ref Cc) → m (Str.ofString "fractions") = some (.ref Fl) → oc.data = .cell (some (.ref Hl)) → T30 ps30 V → T37 ps37 V → (∀ p ∈ V, p.1 ≠ 30 ∧ p.1 ≠ 37) →
      Disj ((Hl, listOf (refs zs).toArray c) :: (30, tabObj ps30) :: (37, tabObj ps37) :: V) ((ch, oc) :: (Fl, listOf vs.toArray kk) :: W) → (∀ p ∈ (30, tabObj ps30) :: (37, tabObj ps37) :: V, p.1 ≠ Hl) →
      Sub (KF ++ hd2.heap_39 P) (W ++ hd2.heap_39 P) → (∀ p ∈ W0, p ∈ W) → HeapL (preZ (preF fs)) zs → (∀ z ∈ zs, It2 (W ++ hd2.heap_39 P) Cc fs z.1 z.2) → (zs.map (·.2)).Perm (List.range i) → (∀ q ∈ W, q.1 ≠ ch ∧ q.1 ≠ Fl) → G i m h₁ tk t I oI E') :
    ∀ i m₁ news₁ h₁ tk₁ t I oI (E' : Value → Shared → Prop), i < n → Fr h₀ L h₁ m₁ → News h₀ L h₁ ((I, oI) :: news₁) → (∀ p ∈ news₁, p.1 ≠ I) → LlJ P KF Cc Hl ch Fl vs fs kk W0 i m₁ news₁ → G i m₁ h₁ tk₁ t I oI E' := by
  rintro i m₁ _ h₁ tk₁ t I oI E' hi F N off ⟨zs, c, V, W, ps30, ps37, oc, e1, e2, e3, rfl, a1, a2, a3, a4, a5, a6, a7, a8, a9, b1, b2⟩
  exact k _ _ _ _ _ _ _ _ _ _ _ _ _ _ _ hi F N off e1 e2 e3 a1 a2 a3 a4 a5 a6 a7 a8 a9 b1 b2
section
variable {g h : Heap} {L : Addr} {D x d i H ch f t3 t7 : Addr × Obj} {V W1 : List (Addr × Obj)}
theorem llPerm (N : News g L h (D :: x :: d :: i :: H :: ch :: f :: t3 :: t7 :: (V ++ W1))) : News g L h ((H :: t3 :: t7 :: V) ++ (i :: ch :: f :: D :: x :: d :: W1)) := fun p hp => N p (by
  simp only [List.mem_cons, List.mem_append] at hp ⊢
  rcases hp with (h | h | h | h) | h | h | h | h | h | h | h <;> simp [h])
theorem llDisj (hDj : Disj (H :: t3 :: t7 :: V) (ch :: f :: W1)) (hI : ∀ p ∈ H :: ch :: f :: t3 :: t7 :: (V ++ W1), p.1 ≠ i.1) (lt : ∀ p ∈ i :: H :: ch :: f :: t3 :: t7 :: (V ++ W1), p.1 < d.1) (hdx : d.1 < x.1) (hxD : x.1 < D.1) :
    Disj (H :: t3 :: t7 :: V) (i :: ch :: f :: D :: x :: d :: W1) := fun p hp q hq => by
  have hp' : p ∈ H :: ch :: f :: t3 :: t7 :: (V ++ W1) := by
    simp only [List.mem_cons, List.mem_append] at hp ⊢
    rcases hp with h | h | h | h <;> simp [h]
  have hl := lt p (.tail _ hp')
  rcases List.mem_cons.mp hq with rfl | hq
  · exact Ne.symm (hI p hp')
  rcases List.mem_cons.mp hq with rfl | hq
  · exact hDj p hp _ (.head _)
  rcases List.mem_cons.mp hq with rfl | hq
  · exact hDj p hp _ (.tail _ (.head _))
  rcases List.mem_cons.mp hq with rfl | hq
  · exact Nat.ne_of_gt (Nat.lt_trans hl (Nat.lt_trans hdx hxD))
  rcases List.mem_cons.mp hq with rfl | hq
  · exact Nat.ne_of_gt (Nat.lt_trans hl hdx)
  rcases List.mem_cons.mp hq with rfl | hq
  · exact Nat.ne_of_gt hl
  · exact hDj p hp q (.tail _ (.tail _ hq))
theorem lpPerm {C : Addr × Obj} (N : News g L h (i :: C :: D :: H :: ch :: f :: t3 :: t7 :: (V ++ W1))) : News g L h ((H :: t3 :: t7 :: V) ++ (i :: C :: D :: ch :: f :: W1)) := fun p hp => N p (by
  simp only [List.mem_cons, List.mem_append] at hp ⊢
  rcases hp with (h | h | h | h) | h | h | h | h | h | h <;> simp [h])
theorem lpBack {C : Addr × Obj} (N : News g L h ((H :: t3 :: t7 :: V) ++ (i :: C :: D :: ch :: f :: W1))) : News g L h (i :: C :: D :: H :: ch :: f :: t3 :: t7 :: (V ++ W1)) := fun p hp => N p (by
  simp only [List.mem_cons, List.mem_append] at hp ⊢
  rcases hp with h | h | h | h | h | h | h | h | h | h <;> simp [h])
theorem lpDisj {C : Addr × Obj} (hDj : Disj (H :: t3 :: t7 :: V) (ch :: f :: W1)) (off : ∀ p ∈ H :: ch :: f :: t3 :: t7 :: (V ++ W1), p.1 ≠ i.1 ∧ p.1 ≠ C.1 ∧ p.1 ≠ D.1) : Disj (H :: t3 :: t7 :: V) (i :: C :: D :: ch :: f :: W1) := fun p hp q hq => by
  have o := off p (by
    simp only [List.mem_cons, List.mem_append] at hp ⊢
    rcases hp with h | h | h | h <;> simp [h])
  rcases List.mem_cons.mp hq with rfl | hq
  · exact Ne.symm o.1
  rcases List.mem_cons.mp hq with rfl | hq
  · exact Ne.symm o.2.1
  rcases List.mem_cons.mp hq with rfl | hq
  · exact Ne.symm o.2.2
  · exact hDj p hp q hq
theorem lpOff {C H' t3' t7' : Addr × Obj} {V' : List (Addr × Obj)} (hd : Disj (H' :: t3' :: t7' :: V') (i :: C :: D :: ch :: f :: W1)) (off : ∀ p ∈ H :: ch :: f :: t3 :: t7 :: (V ++ W1), p.1 ≠ i.1 ∧ p.1 ≠ C.1 ∧ p.1 ≠ D.1) : ∀ p ∈ H' :: ch :: f :: t3' :: t7' :: (V' ++ W1), p.1 ≠ i.1 ∧ p.1 ≠ C.1 ∧ p.1 ≠ D.1 := fun p hp => by
  have : p ∈ H' :: t3' :: t7' :: V' ∨ p ∈ H :: ch :: f :: t3 :: t7 :: (V ++ W1) := by
    simp only [List.mem_cons, List.mem_append] at hp ⊢
    rcases hp with h | h | h | h | h | h | h <;> simp [h]
  rcases this with h | h
  · exact ⟨Ne.symm (hd p h i (.head _)), Ne.symm (hd p h C (.tail _ (.head _))), Ne.symm (hd p h D (.tail _ (.tail _ (.head _))))⟩
  · exact off p h
theorem llNews {H' t3' t7' : Addr × Obj} {V' : List (Addr × Obj)} (N : News g L h ((H' :: t3' :: t7' :: V') ++ (i :: ch :: f :: D :: x :: d :: W1))) : News g L h (i :: H' :: ch :: f :: t3' :: t7' :: (V' ++ (D :: x :: d :: W1))) := fun p hp => N p (by
  simp only [List.mem_cons, List.mem_append] at hp ⊢
  rcases hp with h | h | h | h | h | h | h | h | h | h | h <;> simp [h])
theorem llOff {H' t3' t7' : Addr × Obj} {V' : List (Addr × Obj)} (hd : Disj (H' :: t3' :: t7' :: V') (i :: ch :: f :: D :: x :: d :: W1)) (hI : ∀ p ∈ H :: ch :: f :: t3 :: t7 :: (V ++ W1), p.1 ≠ i.1) (lt : ∀ p ∈ i :: H :: ch :: f :: t3 :: t7 :: (V ++ W1), p.1 < d.1) (hdx : d.1 < x.1) (hxD : x.1 < D.1) :
    ∀ p ∈ H' :: ch :: f :: t3' :: t7' :: (V' ++ (D :: x :: d :: W1)), p.1 ≠ i.1 := fun p hp => by
  have li := lt i (.head _)
  have hr : p ∈ H' :: t3' :: t7' :: V' ∨ p ∈ ch :: f :: W1 ∨ d.1 ≤ p.1 := by
    simp only [List.mem_cons, List.mem_append] at hp ⊢
    rcases hp with h | h | h | h | h | h | h | h | h | h
    · simp [h]
    · simp [h]
    · simp [h]
    · simp [h]
    · simp [h]
    · simp [h]
    · rw [h]; exact .inr (.inr (Nat.le_of_lt (Nat.lt_trans hdx hxD)))
    · rw [h]; exact .inr (.inr (Nat.le_of_lt hdx))
    · rw [h]; exact .inr (.inr (Nat.le_refl _))
    · simp [h]
  rcases hr with hr | hr | hr
  · exact Ne.symm (hd p hr i (.head _))
  · refine hI p ?_
    simp only [List.mem_cons, List.mem_append] at hr ⊢
    rcases hr with h | h | h <;> simp [h]
  · exact Nat.ne_of_gt (Nat.lt_of_lt_of_le li hr)
theorem llDisj' {H' t3' t7' : Addr × Obj} {V' : List (Addr × Obj)} (hd : Disj (H' :: t3' :: t7' :: V') (i :: ch :: f :: D :: x :: d :: W1)) : Disj (H' :: t3' :: t7' :: V') (ch :: f :: D :: x :: d :: W1) := fun p hp q hq => hd p hp q (.tail _ hq)
theorem llKey (hDj : Disj (H :: t3 :: t7 :: V) (ch :: f :: W1)) (hI : ∀ p ∈ H :: ch :: f :: t3 :: t7 :: (V ++ W1), p.1 ≠ i.1) (hW : ∀ q ∈ W1, q.1 ≠ ch.1 ∧ q.1 ≠ f.1) : Disj (i :: H :: ch :: f :: t3 :: t7 :: V) W1 := fun p hp q hq => by
  rcases List.mem_cons.mp hp with rfl | hp
  · exact hI q (by simp only [List.mem_cons, List.mem_append]; simp [hq])
  have : p ∈ H :: t3 :: t7 :: V ∨ p = ch ∨ p = f := by
    simp only [List.mem_cons] at hp ⊢
    rcases hp with h | h | h | h | h | h <;> simp [h]
  rcases this with h | rfl | rfl
  · exact hDj p h q (.tail _ (.tail _ hq))
  · exact (hW q hq).1
  · exact (hW q hq).2
end
theorem It2.mono {G G' : Frag} {C : Addr} {fs : List (Int × Int)} {v : Addr} {i : Nat} (h : Sub G G') : It2 G C fs v i → It2 G' C fs v i :=
  fun ⟨k, t, vf, e1, e2, ⟨⟨p, t1, t2, e3, e4⟩, e5⟩⟩ => ⟨k, t, vf, h _ _ e1, e2.mono h, ⟨⟨p, t1, t2, e3, h _ _ e4⟩, e5⟩⟩
theorem preF_trans {fs : List (Int × Int)} (hp : ∀ a ∈ fs, OkF 64 a) (a b c : Nat) (h1 : preF fs a b) (h2 : preF fs b c) : preF fs a c := by
  have pos : ∀ i, 0 < (fs.getD i (0, 1)).2 := fun i => by
    rw [List.getD_eq_getElem?_getD]
    cases e : fs[i]? with
    | none => decide
    | some x => exact (hp x (List.mem_of_getElem? e)).2.2.1
  have pa := pos a
  have pb := pos b
  have pc := pos c
  unfold preF lessF likeF at *
  generalize fs.getD a (0, 1) = A at *
  generalize fs.getD b (0, 1) = B at *
  generalize fs.getD c (0, 1) = C at *
  obtain ⟨a1, a2⟩ := A
  obtain ⟨b1, b2⟩ := B
  obtain ⟨c1, c2⟩ := C
  dsimp only at *
  -- a1/a2 ≤ b1/b2 ≤ c1/c2
  have key : (a1 * b2) * c2 ≤ (b1 * a2) * c2 ∧ (b1 * c2) * a2 ≤ (c1 * b2) * a2 := ⟨Int.mul_le_mul_of_nonneg_right (by omega) (by omega), Int.mul_le_mul_of_nonneg_right (by omega) (by omega)⟩
  have e1 : (a1 * b2) * c2 = b2 * (a1 * c2) := by ac_rfl
  have e2 : (b1 * a2) * c2 = (b1 * c2) * a2 := by ac_rfl
  have e3 : (c1 * b2) * a2 = b2 * (c1 * a2) := by ac_rfl
  have s1 : a1 * b2 < b1 * a2 → (a1 * b2) * c2 < (b1 * a2) * c2 := fun h => Int.mul_lt_mul_of_pos_right h pc
  have s2 : b1 * c2 < c1 * b2 → (b1 * c2) * a2 < (c1 * b2) * a2 := fun h => Int.mul_lt_mul_of_pos_right h pa
  have q1 : a1 * c2 < c1 * a2 ↔ b2 * (a1 * c2) < b2 * (c1 * a2) := ⟨fun h => Int.mul_lt_mul_of_pos_left h pb, fun h => Int.lt_of_mul_lt_mul_left h (Int.le_of_lt pb)⟩
  have q2 : a1 * c2 = c1 * a2 ↔ b2 * (a1 * c2) = b2 * (c1 * a2) := ⟨fun h => by rw [h], fun h => Int.eq_of_mul_eq_mul_left (Int.ne_of_gt pb) h⟩
  rw [q1, q2, ← e1, ← e3]
  rw [e2] at key s1
  rcases h1 with h1 | ⟨h1, h1'⟩
  · have := s1 h1; left; omega
  · rcases h2 with h2 | ⟨h2, h2'⟩
    · have := s2 h2; left; omega
    · right
      refine ⟨?_, Nat.le_trans h1' h2'⟩
      have u1 : (a1 * b2) * c2 = (b1 * c2) * a2 := by rw [h1]; exact e2
      have u2 : (b1 * c2) * a2 = (c1 * b2) * a2 := by rw [h2]
      omega
theorem llj_fin {P : Params} {KF : Frag} {Cc Hl ch Fl L : Addr} {h₀ : Heap} {vs : List Value} {fs : List (Int × Int)} {kk n : Nat} {W0 : List (Addr × Obj)} {G : (Str → Option Value) → Heap → Nat → Prop}
    (k : ∀ m h₁ tk zs c V W ps30 ps37 oc, Fr h₀ L h₁ m → News h₀ L h₁ ((Hl, listOf (refs zs).toArray c) :: (ch, oc) :: (Fl, listOf vs.toArray kk) :: (30, tabObj ps30) :: (37, tabObj ps37) :: (V ++ W)) →
      m (Str.ofString "key") = some (.ref Cc) → m (Str.ofString "fractions") = some (.ref Fl) → oc.data = .cell (some (.ref Hl)) → T30 ps30 V → T37 ps37 V → (∀ p ∈ V, p.1 ≠ 30 ∧ p.1 ≠ 37) →
      Disj ((Hl, listOf (refs zs).toArray c) :: (30, tabObj ps30) :: (37, tabObj ps37) :: V) ((ch, oc) :: (Fl, listOf vs.toArray kk) :: W) → (∀ p ∈ (30, tabObj ps30) :: (37, tabObj ps37) :: V, p.1 ≠ Hl) →
      Sub (KF ++ hd2.heap_39 P) (W ++ hd2.heap_39 P) → (∀ p ∈ W0, p ∈ W) → HeapL (preZ (preF fs)) zs → (∀ z ∈ zs, It2 (W ++ hd2.heap_39 P) Cc fs z.1 z.2) → (zs.map (·.2)).Perm (List.range n) → (∀ q ∈ W, q.1 ≠ ch ∧ q.1 ≠ Fl) → G m h₁ tk) :
    ∀ m₁ news₁ h₁ tk₁, Fr h₀ L h₁ m₁ → News h₀ L h₁ news₁ → LlJ P KF Cc Hl ch Fl vs fs kk W0 n m₁ news₁ → G m₁ h₁ tk₁ := by
  rintro m₁ _ h₁ tk₁ F N ⟨zs, c, V, W, ps30, ps37, oc, e1, e2, e3, rfl, a1, a2, a3, a4, a5, a6, a7, a8, a9, b1, b2⟩
  exact k _ _ _ _ _ _ _ _ _ _ F N e1 e2 e3 a1 a2 a3 a4 a5 a6 a7 a8 a9 b1 b2
inductive LpJ (P : Params) (Cc Hl ch Fl : Addr) (vs : List Value) (fs : List (Int × Int)) (kk : Nat) (W : List (Addr × Obj)) (oc : Obj) (i : Nat) (ys : List Value) (news : List (Addr × Obj)) : Prop
  | mk (zs : List (Addr × Nat)) (pl : List Nat) (c : Nat) (V : List (Addr × Obj)) (ps30 ps37 : Array Value) (w1 : news = (Hl, listOf (refs zs).toArray c) :: (ch, oc) :: (Fl, listOf vs.toArray kk) :: (30, tabObj ps30) :: (37, tabObj ps37) :: (V ++ W)) (w2 : T30 ps30 V) (w3 : T37 ps37 V) (w4 : ∀ p ∈ V, p.1 ≠ 30 ∧ p.1 ≠ 37)
    (w5 : Disj ((Hl, listOf (refs zs).toArray c) :: (30, tabObj ps30) :: (37, tabObj ps37) :: V) ((ch, oc) :: (Fl, listOf vs.toArray kk) :: W)) (w6 : ∀ p ∈ (30, tabObj ps30) :: (37, tabObj ps37) :: V, p.1 ≠ Hl) (w7 : HeapL (preZ (preF fs)) zs) (w8 : ∀ z ∈ zs, It2 (W ++ hd2.heap_39 P) Cc fs z.1 z.2)
    (w9 : IntsAre ys (pl.map fun (i : Nat) => (i : Int))) (w10 : (pl ++ zs.map (·.2)).Perm (List.range fs.length)) (w11 : pl.Pairwise (preF fs)) (w12 : ∀ a ∈ pl, ∀ z ∈ zs, preF fs a z.2) (w13 : pl.length = i)
theorem lpj_use {P : Params} {Cc Hl ch Fl L : Addr} {h₀ : Heap} {m : Str → Option Value} {vs : List Value} {fs : List (Int × Int)} {kk N : Nat} {W : List (Addr × Obj)} {oc : Obj} {x : Str} {PP : Nat → Value → Prop} {G : Nat → List Value → Addr → Obj → Addr → Obj → Addr → Heap → Nat → (Value → Shared → Prop) → Prop}
    (k : ∀ i ys I oI C oC D h tk E' zs pl c V ps30 ps37, i < N → Fr h₀ L h m → News h₀ L h ((I, oI) :: (C, oC) :: (D, LCg.lst ys) :: (Hl, listOf (refs zs).toArray c) :: (ch, oc) :: (Fl, listOf vs.toArray kk) :: (30, tabObj ps30) :: (37, tabObj ps37) :: (V ++ W)) →
      (∀ p ∈ (Hl, listOf (refs zs).toArray c) :: (ch, oc) :: (Fl, listOf vs.toArray kk) :: (30, tabObj ps30) :: (37, tabObj ps37) :: (V ++ W), p.1 ≠ I ∧ p.1 ≠ C ∧ p.1 ≠ D) → T30 ps30 V → T37 ps37 V → (∀ p ∈ V, p.1 ≠ 30 ∧ p.1 ≠ 37) →
      Disj ((Hl, listOf (refs zs).toArray c) :: (30, tabObj ps30) :: (37, tabObj ps37) :: V) ((ch, oc) :: (Fl, listOf vs.toArray kk) :: W) → (∀ p ∈ (30, tabObj ps30) :: (37, tabObj ps37) :: V, p.1 ≠ Hl) → HeapL (preZ (preF fs)) zs → (∀ z ∈ zs, It2 (W ++ hd2.heap_39 P) Cc fs z.1 z.2) →
      IntsAre ys (pl.map fun (i : Nat) => (i : Int)) → (pl ++ zs.map (·.2)).Perm (List.range fs.length) → pl.Pairwise (preF fs) → (∀ a ∈ pl, ∀ z ∈ zs, preF fs a z.2) → pl.length = i → G i ys I oI C oC D h tk E') :
    ∀ i ys news v I oI C oC D (m₂ : Str → Option Value) h tk (E' : Value → Shared → Prop), i < N → Fr h₀ L h m → News h₀ L h ((I, oI) :: (C, oC) :: (D, LCg.lst ys) :: news) → LpJ P Cc Hl ch Fl vs fs kk W oc i ys news → PP i v → LCg.NsObj oC m₂ → m₂ x = some v → (∀ p ∈ news, p.1 ≠ I ∧ p.1 ≠ C ∧ p.1 ≠ D) → ((@Ne Nat I C) ∧ (@Ne Nat I D) ∧ (@Ne Nat C D)) → G i ys I oI C oC D h tk E' := by
  rintro i ys _ v I oI C oC D m₂ h tk E' hi F N ⟨zs, pl, c, V, ps30, ps37, rfl, a1, a2, a3, a4, a5, a6, a7, a8, a9, b1, b2, b3⟩ _ _ _ off _
  exact k _ _ _ _ _ _ _ _ _ _ _ _ _ _ _ _ hi F N off a1 a2 a3 a4 a5 a6 a7 a8 a9 b1 b2 b3
theorem llEnd {D H ch f t3 t7 p : Addr × Obj} {V W W1 : List (Addr × Obj)} (hW : ∀ p ∈ W, p ∈ W1) (hp : p ∈ D :: f :: t3 :: t7 :: (V ++ W)) : p ∈ D :: H :: ch :: f :: t3 :: t7 :: (V ++ W1) := by
  simp only [List.mem_cons, List.mem_append] at hp ⊢
  rcases hp with h | h | h | h | h | h
  · simp [h]
  · simp [h]
  · simp [h]
  · simp [h]
  · simp [h]
  · simp [hW _ h]
theorem ll58 {D f t3 t7 t p : Addr × Obj} {V W : List (Addr × Obj)} (hp : p ∈ D :: f :: t3 :: t7 :: ((t :: V) ++ W)) : p ∈ D :: f :: t3 :: t7 :: (V ++ (t :: W)) := by
  simp only [List.mem_cons, List.mem_append] at hp ⊢
  rcases hp with h | h | h | h | (h | h) | h <;> simp [h]
theorem lawLaid (w : World) (Fl : Addr) (vs : List Value) (fs : List (Int × Int)) (kk : Nat) (W : List (Addr × Obj)) (hps : PairsIn W vs fs) (hok : ∀ a ∈ fs, OkF 64 a) (hfl : fs.length < 1000)
   (p : Program) (loose : List Str) (mean : ExcName → Option Value) (mg mb : Str → Option Value) (dp un : Nat) (gd : Option (List Code)) (cn : Str) (cs : Scope) (a : Addr) (ccd : Value) (cl : List (Str × Addr)) (outer : List Env) (A₀ : Around) (base h₀ : Heap) (L : Addr) (m : Str → Option Value) (s : Shared) (Q E : Value → Shared → Prop) (n n2 : Nat) (Z : s.heap.objs.size = n) (hn : n2 = n + 3) (hn9 : 100 < n) (hgens : s.gens = #[]) (ZP : Heap → Prop) (HT : TopZ ZP h₀) (hW58 : ∀ p ∈ (Fl, listOf vs.toArray kk) :: W, p.1 ≠ 30 ∧ p.1 ≠ 37 ∧ p.1 ≠ 58) (hWF : ∀ p ∈ W, p.1 ≠ Fl) (h121 : (121, tabObj #[]) ∈ W)
   (HZ : ∀ (gd : Option (List Code)) (cn : Str) (cs : Scope) (a : Addr) (ccd : Value) (cl : List (Str × Addr)) (outer : List Env) (L : Addr) (s : Shared) (Q E : Value → Shared → Prop), ZP s.heap → s.gens = #[] → s.heap.objs.size = n2 → ZHn w n2 s Q →
     wpAny (model PySem.Challenge.rw_nq0126_02.row.prog w) (ktrTop (dp + 1) (un + 3) gd cn cs L a ccd cl outer) (call (.ref 63) [.ref 107]) Q E s)
   : Below A₀ base outer h₀ → CodeHd base 34 30 → CodeHd base 41 37 → CodeHd base 62 58 → Fr h₀ L s.heap m → (hd2.heap_39 w.params).In h₀ → News h₀ L s.heap ((Fl, listOf vs.toArray kk) :: (30, tabObj #[]) :: (37, tabObj #[]) :: (58, tabObj #[]) :: W) → Top p loose mean mg mb h₀ → cs.kind = .function → dp + 500 < recursionLimit → un + 5000 < cLine →
    (∀ r news' h' tk', Fr h₀ L h' m → News h₀ L h' news' → LlRet Fl vs fs kk W r news' → Q r { s with heap := h', toks := tk' }) →
    wpAny (model PySem.Challenge.rw_nq0126_02.row.prog w) (ktrTop dp un gd cn cs L a ccd cl outer) (call (.ref 112) [.ref Fl]) Q E s := by
  k_fill
  intro B C1 C2 C3 F X N T hk hd hu hret
  refine wpAny_call ?_
  k_dflt (refine' codeDefCZ (c := 2) ?k1 ?k2 ?k3 ?k4 ?k5 ?kA ?kF ?kK ?kZ ?k6 ?k7 ?k8 ?k9 ?kB ?kD ?kc ?_ ?c2 ?c3 ?c4; (case kA => exact rfl); (case kF => exact rfl); (case kK => assumption); (case kZ => assumption); (case k1 => k_asm); (case k2 => k_asm); (case k3 => k_asm); (case k4 => k_asm); (case k5 => k_asm); (case k6 => k_is); (case k7 => k_is); (case k8 => k_room); (case k9 => exact BindsTo.of_eq rfl); (case kB => exact rfl); (case kD => decide +kernel); (case kc => decide +kernel); (case c2 => exact rfl); (case c3 => exact rfl); (case c4 => exact rfl); intro g' L' h' tk' cells' FG' F' N' Y' B' X' T' l1 Z'; (try k_lt l1); k_cells Y'; (try simp only [List.cons_append, List.nil_append] at N'); (try dsimp only); (try k_lift B'); (try k_fold))
  refine absPost ?_
  intro PP EE hPP hEE
  w_strict k_steps
  unfold Stop
  refine newListZ (by k_asm) (by k_asm) (by assumption) ?_
  intro Hl hH FH NH lH ZH
  k_lt lH
  w_strict k_steps
  unfold Stop
  (with_reducible rename News _ _ _ _ => N7)
  (with_reducible rename Fr _ _ _ _ => F7)
  (with_reducible rename Array.size _ = _ => Z7)
  have n30 := (N7 (30, tabObj #[]) (by k_mem)).1
  have n37 := (N7 (37, tabObj #[]) (by k_mem)).1
  have n58 := N7 (58, tabObj #[]) (by k_mem)
  have Z8 : _ = n2 := Z7.trans hn.symm
  refine HZ _ _ _ _ _ _ _ _ _ _ _ ((HT.up FG') _ F7.keep n30 n37 n58.1 (N7 (121, tabObj #[]) (by k_mem)).1) hgens Z8 ?_
  rintro ⟨h9, g9, d9, t9, o9⟩ KF kc hKF hkeep ⟨ps58, h589⟩ eg ed eo
  dsimp only at hKF hkeep h589 eg ed eo
  subst eg ed eo
  have NR : News g' L' _ _ := fun p hp => N7 p (skip5 hp)
  have hHl : Hl < n2 := Nat.lt_of_lt_of_le (Heap.lt_size (N7 _ (.head _)).1) (Nat.le_of_eq Z8)
  obtain ⟨F9, N9⟩ := afterCmp (KF := KF) F7 NR n58.2.2 (fun p hp => by
    simp only [List.mem_cons] at hp
    rcases hp with rfl | rfl | rfl | rfl | rfl | hp
    · refine neN ?_; (try dsimp only); omega
    · refine neN ?_; (try dsimp only); omega
    · exact (hW58 (Fl, _) (.head _)).2.2
    · exact neN (show (30 : Nat) ≠ 58 by decide)
    · exact neN (show (37 : Nat) ≠ 58 by decide)
    · exact (hW58 p (.tail _ hp)).2.2) (neN (by omega)) Z8 hKF hkeep h589
  simp only [List.cons_append] at N9
  have hKa : ∀ p ∈ KF, n2 ≤ p.1 := fun p hp => (hKF p hp).2
  clear N7 F7 NR Z7 Z8 hkeep n30 n37 n58 hKF
  generalize hCc : n2 + 60 = Cc at *
  w_strict k_steps
  unfold Stop
  refine kup_newTuple (by k_asm) (by k_asm) ?_ (Nat.le_of_ble_eq_true rfl)
  intro D0 hD0 FD0 ND0 lD0
  w_strict k_steps
  (with_reducible rename News _ _ _ _ => N7)
  (with_reducible rename Fr _ _ _ _ => F7)
  (with_reducible rename Obj.data _ = _ => hc0)
  have hKW : ∀ p ∈ KF, p ∈ W ++ ((58, tabObj ps58) :: KF) := fun p hp => List.mem_append_right _ (.tail _ hp)
  have hWW : ∀ p ∈ (58, tabObj ps58) :: W, p ∈ W ++ ((58, tabObj ps58) :: KF) := fun p hp => (List.mem_cons.mp hp).elim (fun q => q ▸ List.mem_append_right _ (.head _)) (List.mem_append_left _)
  have h58o : ∀ q ∈ (Fl, listOf vs.toArray kk) :: W, q.1 ≠ 58 := fun q hq => (hW58 q hq).2.2
  have hWo : ∀ p ∈ W ++ ((58, tabObj ps58) :: KF), p.1 ≠ Hl ∧ p.1 ≠ L' + 1 ∧ p.1 ≠ Fl ∧ p.1 ≠ 30 ∧ p.1 ≠ 37 := fun p hp => by
    rcases List.mem_append.mp hp with hp | hp
    · have h1 := hW58 p (.tail _ hp)
      have h2 := ltN (allLt_get l1.2.2.2.2 p hp)
      refine ⟨neN ?_, neN ?_, hWF p hp, h1.1, h1.2.1⟩ <;> omega
    · rcases List.mem_cons.mp hp with rfl | hp
      · refine ⟨neN ?_, neN ?_, Ne.symm (hW58 (Fl, _) (.head _)).2.2, neN (show (58 : Nat) ≠ 30 by decide), neN (show (58 : Nat) ≠ 37 by decide)⟩ <;> ((try dsimp only); omega)
      have h2 := hKa p hp
      have h2' : Hl < p.1 := Nat.lt_of_lt_of_le hHl h2
      have h3 := ltN h2'
      refine ⟨neN ?_, neN ?_, neN ?_, neN ?_, neN ?_⟩ <;> omega
  have oH : L' + 1 < Hl ∧ Fl < Hl ∧ 30 < Hl ∧ 37 < Hl := by refine ⟨ltN ?_, ltN ?_, ltN ?_, ltN ?_⟩ <;> omega
  have oC : Fl < L' + 1 ∧ 30 < L' + 1 ∧ 37 < L' + 1 := by refine ⟨ltN ?_, ltN ?_, ltN ?_⟩ <;> omega
  have oF : (30 : Addr) ≠ Fl ∧ (37 : Addr) ≠ Fl := ⟨Ne.symm (hW58 (Fl, _) (.head _)).1, Ne.symm (hW58 (Fl, _) (.head _)).2.1⟩
  have hD0 := lD0 _ (.tail _ (.head _))
  clear hW58 hWF lH l1 hHl hKa lD0
  generalize hWg : W ++ ((58, tabObj ps58) :: KF) = W9 at N7 hKW hWW hWo
  refine storeX_C F7 N7 rfl (.tail (Nat.ne_of_gt hD0) (.tail (Nat.ne_of_gt oH.1) (.head ?off))) hc0 ?_
  case off =>
    intro q hq
    simp only [List.mem_cons] at hq
    rcases hq with rfl | rfl | rfl | hq
    · exact Nat.ne_of_lt oC.1
    · exact Nat.ne_of_lt oC.2.1
    · exact Nat.ne_of_lt oC.2.2
    · exact (hWo q hq).2.1
  intro hk ok Fk Nk dk
  clear N7 F7 hc0
  (try dsimp only at Nk)
  w_strict k_steps
  unfold Stop
  refine forK (h₀ := g') (L := L') (LlJ w.params KF Cc Hl (L' + 1) Fl vs fs kk ((58, tabObj ps58) :: W)) ?_
  have hvl : vs.length = fs.length := hps.1
  have hnl2 : fs.length < 2 ^ 20 := by omega
  w_strict k_steps
  unfold Stop
  (with_reducible rename News _ _ _ _ => NN0)
  have NN := newsTail NN0
  clear NN0
  refine ⟨_, _, _, _, _, fs.length, _, _, rfl, rfl, by assumption, NN, by assumption, ?small, ?size, ?J0, ?turn, ?fin⟩
  case small => exact small_one (by omega) (by omega) (by omega) (by omega)
  case size => simp only [Builtin.Range.rangeSize]; split <;> omega
  case J0 =>
    have hNN : ∀ p ∈ W9, _ := fun p hp => (NN p (.tail _ (.tail _ (.tail _ (.tail _ (.tail _ hp)))))).1
    (with_reducible rename Fr _ _ _ _ => FF)
    refine ⟨[], 0, [], W9, #[], #[], ok, rfl, rfl, dk, rfl, .inl rfl, .inl rfl, (fun p hp => nomatch hp), ?dj, ?hl, subH hKW hNN (fun b o e => FF.keep b o (X' b o e)), hWW, (fun i x y _ h1 => by simp at h1), (fun z hz => nomatch hz), .refl _, fun q hq => ⟨(hWo q hq).2.1, (hWo q hq).2.2.1⟩⟩
    case dj => exact disj_of ⟨oH.1, oH.2.1⟩ ⟨oC.2.1, oC.2.2⟩ oF hWo
    case hl => exact tabs_off ⟨oH.2.2.1, oH.2.2.2⟩
  case turn =>
    clear NN hWo hWg hWW hKW dk
    refine llj_turn ?_
    intro i m₁ h₁ tk₁ t I oI E' zs c V W1 ps30 ps37 oc hi F1 N1 hoff e1 e2 e3 hT30 hT37 hV hDj hHo hsub hW0 hH hIt hperm hWcf
    have hN1 : ∀ q ∈ W1, h₁.get? q.1 = some q.2 := fun q hq => (N1 q (by simp only [List.mem_cons, List.mem_append]; simp [hq])).1
    have XG : InW (W1 ++ hd2.heap_39 w.params) h₁ := wIn hN1 X' F1
    w_strict k_steps
    unfold Stop
    (with_reducible rename News _ _ _ _ => Nk)
    (with_reducible rename Fr _ _ _ _ => Fk)
    clear XG hN1
    have hNk : ∀ q ∈ W1, _ := fun q hq => (Nk q (by simp only [List.mem_cons, List.mem_append]; simp [hq])).1
    have XGk : InW (W1 ++ hd2.heap_39 w.params) _ := wIn hNk X' Fk
    refine callWith_K (K := KF ++ hd2.heap_39 w.params) (h₀ := _) (fun b o e => XGk b o (hsub b o e)) kc.keep ?_
    w_strict k_steps
    unfold Stop
    obtain ⟨pf, tf1, tf2, hvi, hmf⟩ := hps.2 i hi
    refine kim_list Nk (.tail _ (.tail _ (.tail _ (.head _)))) rfl rfl (by omega) (by omega) (x := .ref pf) (by rw [Int.toNat_natCast]; exact hvi) ?_
    w_strict k_steps
    · exact fun b o e => XGk b o (hsub b o e)
    unfold Stop
    have hkey := llKey (i := (I, oI)) hDj hoff hWcf
    (with_reducible rename News _ _ _ _ => Nq)
    (with_reducible rename Fr _ _ _ _ => Fq)
    have NqR : News g' L' _ ([(I, oI), (Hl, listOf (refs zs).toArray c), (L' + 1, oc), (Fl, listOf vs.toArray kk), (30, tabObj ps30), (37, tabObj ps37)] ++ V ++ W1) := Nq
    have NqS : News g' L' _ ([(I, oI), (Hl, listOf (refs zs).toArray c), (L' + 1, oc), (Fl, listOf vs.toArray kk), (30, tabObj ps30), (37, tabObj ps37)] ++ V) := fun p hp => NqR p (List.mem_append_left _ hp)
    k_dflt (refine' keyK w (KF ++ hd2.heap_39 w.params) (W1 ++ hd2.heap_39 w.params) Cc (n2 + 61) (n2 + 16) (n2 + 24) (n2 + 40) (n2 + 1) 107 kc hsub _ _ _ _ _ _ _ _ _ _ _ _ _ _ _ _ _ _ _ _ _ _ _ _ ?k1 ?c1 ?c2 ?c3 ?k2 ?k3 ?kI NqS ?k5 ?kK ?kd ?ku ?_; (case k1 => k_asm); (case k2 => k_asm); (case k3 => k_asm); (case k5 => k_asm); (case kK => first | exact rfl | assumption))
    (case c1 => assumption)
    (case c2 => assumption)
    (case c3 => assumption)
    (case kI => exact kiW Fq NqR X' hkey)
    (case kd => dsimp only [ktrTop]; omega)
    (case ku => dsimp only [ktrTop]; omega)
    rintro x dx hx tkx Fx Nx KPx hltx hdxx
    have hold := fun p hp => hltx _ _ (NqR p hp).1
    replace Nx := news_back NqR Nx KPx hkey
    replace Nx : News g' L' hx ((x, keyO Cc dx (.ref pf)) :: (dx, emptyDict) :: (I, oI) :: (Hl, listOf (refs zs).toArray c) :: (L' + 1, oc) :: (Fl, listOf vs.toArray kk) :: (30, tabObj ps30) :: (37, tabObj ps37) :: (V ++ W1)) := Nx
    clear NqR NqS Nq KPx hkey hltx XGk hNk Fq
    dsimp only
    w_strict k_steps
    unfold Stop
    refine kup_newTuple (by k_asm) (by k_asm) ?_ (Nat.le_of_ble_eq_true rfl)
    intro Dt ht Ft Nt lt
    dsimp only
    w_strict k_steps
    unfold Stop
    have hold' : ∀ p ∈ (I, oI) :: (Hl, listOf (refs zs).toArray c) :: (L' + 1, oc) :: (Fl, listOf vs.toArray kk) :: (30, tabObj ps30) :: (37, tabObj ps37) :: (V ++ W1), p.1 < dx := hold
    have hxD : x < Dt := lt (x, _) (.head _)
    have NtR := llPerm Nt
    have hdis2 := llDisj (D := (Dt, tupO #[.ref x, .int (i : Int) t])) (x := (x, keyO Cc dx (.ref pf))) (d := (dx, emptyDict)) (i := (I, oI)) hDj hoff hold' hdxx hxD
    have hWn : ∀ q ∈ (I, oI) :: (L' + 1, oc) :: (Fl, listOf vs.toArray kk) :: (Dt, tupO #[.ref x, .int (i : Int) t]) :: (x, keyO Cc dx (.ref pf)) :: (dx, emptyDict) :: W1, ht.get? q.1 = some q.2 := fun q hq => (NtR q (List.mem_append_right _ hq)).1
    have kiP := kiW Ft NtR X' hdis2
    have hW9 : ∀ q ∈ (Dt, tupO #[.ref x, .int (i : Int) t]) :: (x, keyO Cc dx (.ref pf)) :: (dx, emptyDict) :: W1, ht.get? q.1 = some q.2 := fun q hq => hWn q (.tail _ (.tail _ (.tail _ hq)))
    have XH : ∀ b o, (hd2.heap_39 w.params).lookup b = some o → ht.get? b = some o := fun b o e => Ft.keep b o (X' b o e)
    have hs5 : Sub (W1 ++ hd2.heap_39 w.params) ((Dt, tupO #[.ref x, .int (i : Int) t]) :: (x, keyO Cc dx (.ref pf)) :: (dx, emptyDict) :: W1 ++ hd2.heap_39 w.params) := subH (fun p hp => .tail _ (.tail _ (.tail _ hp))) hW9 XH
    have hs6 : Sub ((Dt, tupO #[.ref x, .int (i : Int) t]) :: (x, keyO Cc dx (.ref pf)) :: (dx, emptyDict) :: W1 ++ hd2.heap_39 w.params) ((I, oI) :: (L' + 1, oc) :: (Fl, listOf vs.toArray kk) :: (Dt, tupO #[.ref x, .int (i : Int) t]) :: (x, keyO Cc dx (.ref pf)) :: (dx, emptyDict) :: W1 ++ hd2.heap_39 w.params) := subH (fun p hp => .tail _ (.tail _ (.tail _ hp))) hWn XH
    have hfm : fs.getD i (0, 1) ∈ fs := by rw [List.getD_eq_getElem?_getD, List.getElem?_eq_getElem hi]; exact List.getElem_mem hi
    have hnew : It2 ((Dt, tupO #[.ref x, .int (i : Int) t]) :: (x, keyO Cc dx (.ref pf)) :: (dx, emptyDict) :: W1 ++ hd2.heap_39 w.params) Cc fs Dt i :=
      ⟨x, t, .ref pf, lk_of_mem (.head _) hW9 XH, ⟨dx, lk_of_mem (.tail _ (.head _)) hW9 XH, lk_of_mem (.tail _ (.tail _ (.head _))) hW9 XH⟩, ⟨pf, tf1, tf2, rfl, lk_of_mem (.tail _ (.tail _ (.tail _ (hW0 _ (.tail _ hmf))))) hW9 XH⟩, hok _ hfm⟩
    have hIt2 := fun z hz => ((hIt z hz).mono hs5).mono hs6
    have hzl : zs.length < 2 ^ 19 := by
      have := hperm.length_eq
      simp only [List.length_map, List.length_range] at this
      omega
    have HC := cmp2 w (KF ++ hd2.heap_39 w.params) _ Cc (n2 + 61) (n2 + 16) (n2 + 24) (n2 + 40) (n2 + 1) kc (Sub.trans' hsub (Sub.trans' hs5 hs6)) fs
    have NtS : News g' L' ht ((Hl, listOf (refs zs).toArray c) :: (30, tabObj ps30) :: (37, tabObj ps37) :: V) := fun p hp => NtR p (List.mem_append_left _ hp)
    k_dflt (refine' heappush w _ (InvD _) _ (preF fs) 410 (preF_trans hok) HC Hl c zs ((30, tabObj ps30) :: (37, tabObj ps37) :: V) (Dt, i) hH hIt2 (hnew.mono hs6) hzl ⟨⟨ps30, ps37, V, rfl, hT30, hT37, hV⟩, fun b o e p hp => (kiP b o e).2 p (.tail _ hp)⟩ hHo _ _ _ _ _ _ _ _ _ _ _ _ _ _ _ _ _ _ _ _ _ _ ?pk1 ?pc1 ?pc2 ?pc3 ?pk2 ?pk3 kiP NtS ?pk5 ?pkK ?pkd ?pku ?_; (case pk1 => k_asm); (case pk2 => k_asm); (case pk3 => k_asm); (case pk5 => k_asm); (case pkK => first | exact rfl | assumption))
    (case pc1 => assumption)
    (case pc2 => assumption)
    (case pc3 => assumption)
    (case pkd => dsimp only [ktrTop]; omega)
    (case pku => dsimp only [ktrTop]; omega)
    rintro _ _ hp1 tkp Fp Np KPp ⟨rfl, zs2, W2, rfl, hpm, hH2, ⟨⟨qs30, qs37, V2, rfl, u30, u37, hV2⟩, hInv2⟩, hHo2⟩
    replace Np := news_back NtR Np KPp hdis2
    have hdis3 : Disj ((Hl, listOf (refs zs2).toArray (c + 1)) :: (30, tabObj qs30) :: (37, tabObj qs37) :: V2) ((I, oI) :: (L' + 1, oc) :: (Fl, listOf vs.toArray kk) :: (Dt, tupO #[.ref x, .int (i : Int) t]) :: (x, keyO Cc dx (.ref pf)) :: (dx, emptyDict) :: W1) := fun p hp q hq => by
      rcases List.mem_cons.mp hp with rfl | hp
      · exact hdis2 (Hl, listOf (refs zs).toArray c) (.head _) q hq
      · exact Ne.symm (hInv2 q.1 q.2 (lk_of_mem hq hWn XH) p hp)
    have hWcf2 : ∀ q ∈ (Dt, tupO #[.ref x, .int (i : Int) t]) :: (x, keyO Cc dx (.ref pf)) :: (dx, emptyDict) :: W1, q.1 ≠ L' + 1 ∧ q.1 ≠ Fl := fun q hq => by
      have l1 := hold' (L' + 1, oc) (.tail _ (.tail _ (.head _)))
      have l2 := hold' (Fl, listOf vs.toArray kk) (.tail _ (.tail _ (.tail _ (.head _))))
      rcases List.mem_cons.mp hq with rfl | hq
      · exact ⟨Nat.ne_of_gt (Nat.lt_trans l1 (Nat.lt_trans hdxx hxD)), Nat.ne_of_gt (Nat.lt_trans l2 (Nat.lt_trans hdxx hxD))⟩
      rcases List.mem_cons.mp hq with rfl | hq
      · exact ⟨Nat.ne_of_gt (Nat.lt_trans l1 hdxx), Nat.ne_of_gt (Nat.lt_trans l2 hdxx)⟩
      rcases List.mem_cons.mp hq with rfl | hq
      · exact ⟨Nat.ne_of_gt l1, Nat.ne_of_gt l2⟩
      · exact hWcf q hq
    dsimp only
    w_strict k_steps
    refine ⟨.inl rfl, hp1, _, _, _, rfl, Fp, llNews Np, llOff (i := (I, oI)) hdis3 hoff hold' hdxx hxD, ⟨zs2, c + 1, V2, _, qs30, qs37, oc, (if_neg (by decide)).trans e1, (if_neg (by decide)).trans e2, e3, rfl, u30, u37, hV2, llDisj' hdis3, hHo2, Sub.trans' hsub hs5, fun p hp => .tail _ (.tail _ (.tail _ (hW0 p hp))), hH2, fun z hz => ?_, ?_, hWcf2⟩⟩
    · rcases List.mem_append.mp (hpm.mem_iff.mp hz) with hz | hz
      · exact (hIt z hz).mono hs5
      · rw [List.mem_singleton.mp hz]; exact hnew
    · refine (hpm.map _).trans ?_
      rw [List.map_append, List.range_succ]
      exact hperm.append_right _
  case fin =>
    clear NN hWo hWg hWW hKW dk
    refine llj_fin ?_
    intro m₁ h₁ tk₁ zs c V W1 ps30 ps37 oc F1 N1 e1 e2 e3 hT30 hT37 hV hDj hHo hsub hW0 hH hIt hperm hWcf
    w_strict k_steps
    unfold Stop
    refine LCg.CompSrc.ledger (by rfl) (by k_asm) (by k_asm) (.tail _ (.tail _ (.head _))) (by rw [List.size_toArray, hvl, sizeLine_eq]; omega) ?_
    intro g1
    refine comp_indJ (N := fs.length) (LpJ w.params Cc Hl (L' + 1) Fl vs fs kk W1 oc) ?step ?fin2 _ _ _ _ (by rw [List.size_toArray, hvl, Nat.zero_add]) ⟨zs, [], c, V, ps30, ps37, rfl, hT30, hT37, hV, hDj, hHo, hH, hIt, .nil, hperm, .nil, (fun a ha => nomatch ha), rfl⟩
    case step =>
      refine lpj_use ?_
      intro i ys I oI C oC D h₂ tk₂ E2 zs2 pl c2 V2 qs30 qs37 hi F2 N2 off2 t30 t37 oV dj hHo2 hH2 hIt2 hys hpl hpw hle hlen
      w_strict k_steps
      unfold Stop
      have NR := lpPerm N2
      have dj2 := lpDisj (i := (I, oI)) (C := (C, oC)) (D := (D, LCg.lst ys)) dj off2
      have kiP := kiW F2 NR X' dj2
      have hRn : ∀ q ∈ (I, oI) :: (C, oC) :: (D, LCg.lst ys) :: (L' + 1, oc) :: (Fl, listOf vs.toArray kk) :: W1, h₂.get? q.1 = some q.2 := fun q hq => (NR q (List.mem_append_right _ hq)).1
      have XH : ∀ b o, (hd2.heap_39 w.params).lookup b = some o → h₂.get? b = some o := fun b o e => F2.keep b o (X' b o e)
      have hs5 : Sub (W1 ++ hd2.heap_39 w.params) ((I, oI) :: (C, oC) :: (D, LCg.lst ys) :: (L' + 1, oc) :: (Fl, listOf vs.toArray kk) :: W1 ++ hd2.heap_39 w.params) := subH (fun p hp => .tail _ (.tail _ (.tail _ (.tail _ (.tail _ hp))))) hRn XH
      have hzl : pl.length + zs2.length = fs.length := by
        have := hpl.length_eq
        simpa only [List.length_append, List.length_map, List.length_range] using this
      have hne : zs2 ≠ [] := fun e => by rw [e, hlen] at hzl; exact Nat.lt_irrefl _ (hzl ▸ hi)
      have HC := cmp2 w (KF ++ hd2.heap_39 w.params) _ Cc (n2 + 61) (n2 + 16) (n2 + 24) (n2 + 40) (n2 + 1) kc (Sub.trans' hsub hs5) fs
      have NS : News g' L' h₂ ((Hl, listOf (refs zs2).toArray c2) :: (30, tabObj qs30) :: (37, tabObj qs37) :: V2) := fun p hp => NR p (List.mem_append_left _ hp)
      k_dflt (refine' heappop w _ (InvD _) _ (preF fs) 410 (preF_trans hok) HC Hl c2 zs2 ((30, tabObj qs30) :: (37, tabObj qs37) :: V2) hH2 (fun z hz => (hIt2 z hz).mono hs5) hne (by omega) ⟨⟨qs30, qs37, V2, rfl, t30, t37, oV⟩, fun b o e p hp => (kiP b o e).2 p (.tail _ hp)⟩ hHo2 _ _ _ _ _ _ _ _ _ _ _ _ _ _ _ _ _ _ _ _ _ _ ?qk1 ?qc1 ?qc2 ?qc3 ?qk2 ?qk3 kiP NS ?qk5 ?qkK ?qkd ?qku ?_; (case qk1 => k_asm); (case qk2 => k_asm); (case qk3 => k_asm); (case qk5 => k_asm); (case qkK => first | exact rfl | assumption))
      (case qc1 => assumption)
      (case qc2 => assumption)
      (case qc3 => assumption)
      (case qkd => dsimp only [ktrTop]; omega)
      (case qku => dsimp only [ktrTop]; omega)
      rintro _ _ hp1 tkp Fp Np KPp ⟨⟨xv, xi⟩, zs3, W2, c3, rfl, hx0, rfl, hpm, hH3, ⟨⟨rs30, rs37, V3, rfl, u30, u37, hV3⟩, hInv3⟩, hHo3⟩
      replace Np := news_back NR Np KPp dj2
      have dj3 : Disj ((Hl, listOf (refs zs3).toArray c3) :: (30, tabObj rs30) :: (37, tabObj rs37) :: V3) ((I, oI) :: (C, oC) :: (D, LCg.lst ys) :: (L' + 1, oc) :: (Fl, listOf vs.toArray kk) :: W1) := fun p hp q hq => by
        rcases List.mem_cons.mp hp with rfl | hp
        · exact dj2 (Hl, listOf (refs zs2).toArray c2) (.head _) q hq
        · exact Ne.symm (hInv3 q.1 q.2 (lk_of_mem hq hRn XH) p hp)
      have hxm := List.mem_of_getElem? hx0
      obtain ⟨kx, tx, vfx, lkx, _⟩ := hIt2 _ hxm
      have gx : hp1.get? xv = some (tupO #[.ref kx, .int (xi : Int) tx]) := wIn (fun q hq => (Np q (List.mem_append_right _ (.tail _ (.tail _ (.tail _ (.tail _ (.tail _ hq))))))).1) X' Fp _ _ lkx
      have hroot : ∀ z ∈ zs2, preF fs xi z.2 := fun z hz => by
        obtain ⟨i', hi'⟩ := List.getElem?_of_mem hz
        exact HeapL.root (pre := preZ (preF fs)) (fun a => .inr ⟨rfl, Nat.le_refl _⟩) (fun a b c h1 h2 => preF_trans hok a.2 b.2 c.2 h1 h2) hH2 hx0 _ _ hi'
      have hsub3 : ∀ z ∈ zs3, z ∈ zs2 := fun z hz => hpm.mem_iff.mp (.tail _ hz)
      clear NR NS kiP HC hInv3 KPp
      dsimp only
      w_strict k_steps
      unfold Stop
      refine kba_turn (value' := PySem.Expr.Name (PySem.Str.ofString "_") ⟨0, 0, 0, 0⟩) (fun _ => rfl) ?_
      refine item_tupleL (l := [.ref kx, .int (xi : Int) tx]) (j := 1) ⟨_, gx, rfl, _, rfl⟩ (by decide) (by decide) rfl rfl ?_
      w_strict k_steps
      unfold Stop
      refine ⟨hp1, _, _, rfl, Fp, lpBack Np, LCg.Off3.of (lpOff (i := (I, oI)) (C := (C, oC)) (D := (D, LCg.lst ys)) dj3 off2), .inr ⟨_, .tail _ (.tail _ (.head _)), rfl, _, rfl⟩, ⟨zs3, pl ++ [xi], c3, V3, rs30, rs37, rfl, u30, u37, hV3, fun p hp q hq => dj3 p hp q (.tail _ (.tail _ (.tail _ hq))), hHo3, hH3, fun z hz => hIt2 z (hsub3 z hz), ?ga, ?gb, ?gc, ?gd9, ?ge⟩⟩
      case ga => rw [List.map_append]; exact ints_append hys (.cons _ _ .nil)
      case gb => rw [List.append_assoc]; exact ((hpm.map (·.2)).append_left pl).trans hpl
      case gc => exact List.pairwise_append.mpr ⟨hpw, List.pairwise_singleton _ _, fun a ha b hb => by rw [List.mem_singleton.mp hb]; exact hle a ha _ hxm⟩
      case gd9 =>
        intro a ha z hz
        rcases List.mem_append.mp ha with ha | ha
        · exact hle a ha z (hsub3 z hz)
        · rw [List.mem_singleton.mp ha]; exact hroot z (hsub3 z hz)
      case ge => rw [List.length_append, hlen]; rfl
    case fin2 =>
      rintro ys _ ⟨zs2, pl, c2, V2, qs30, qs37, rfl, t30, t37, oV, dj, hHo2, hH2, hIt2, hys, hpl, hpw, hle, hlen⟩
      have hz : zs2 = [] := by
        have := hpl.length_eq
        simp only [List.length_append, List.length_map, List.length_range] at this
        exact List.eq_nil_of_length_eq_zero (by omega)
      subst hz
      rw [List.map_nil, List.append_nil] at hpl
      unfold LCg.FinE
      intro D hD tkD FD ND _
      dsimp only
      w_strict k_steps
      subst hPP
      dsimp only
      w_strict k_steps
      (with_reducible rename News _ _ _ _ => Ne)
      refine hret _ _ _ _ (by k_asm) (fun p hp => Ne p (llEnd hW0 (ll58 hp))) ⟨D, ys, pl, _, (58, tabObj ps58) :: V2, qs30, qs37, rfl, rfl, hys, hpl, hpw, t30_mono t30 (fun q hq => .tail _ hq), t37_mono t37 (fun q hq => .tail _ hq), fun p hp => ?_, fun p hp q hq => ?_, ⟨ps58, .head _⟩⟩
      · rcases List.mem_cons.mp hp with rfl | hp
        · exact ⟨neN (show (58 : Nat) ≠ 30 by decide), neN (show (58 : Nat) ≠ 37 by decide)⟩
        · exact oV p hp
      by_cases q58 : p = (58, tabObj ps58)
      · subst q58; exact h58o q hq
      have hp' : p ∈ (30, tabObj qs30) :: (37, tabObj qs37) :: V2 := by
        simp only [List.mem_cons] at hp ⊢
        rcases hp with h | h | h | h
        · simp [h]
        · simp [h]
        · exact absurd h q58
        · simp [h]
      rcases List.mem_cons.mp hq with rfl | hq
      · exact dj p (.tail _ hp') _ (.tail _ (.head _))
      · exact dj p (.tail _ hp') q (.tail _ (.tail _ (hW0 q (.tail _ hq))))
end Mine
end SecLL
section SecAH
theorem Mine.offAH : True := by
  w_top off
  k_with_none
  trivial
open PySem PySem.W PyProof.Rows PySem.Spec PySem.Calls
set_option maxRecDepth 100000
set_option maxHeartbeats 8000000
namespace Mine
theorem rulesAH : True := by
  k_with_none
  k_with "subscriptTail Name" => (k_here; (refine' kim_list (by k_asm) (by k_mem) (by rfl) (by rfl) (by omega) (by omega) (by assumption) ?_))
  k_with "subscriptTail Subscript" => (k_here; (refine' kba_turn (value' := PySem.Expr.Name (PySem.Str.ofString "_") ⟨0, 0, 0, 0⟩) (fun _ => rfl) (kim_tup (l := [.int _ _, .int _ _]) (by k_asm) (by assumption) (by rfl) (by rfl) (by decide) (by decide) (by rfl) (by rfl) ?_)))
  k_with "storeName" => (k_here; k_dflt (refine' storeZ (by k_asm) (by k_asm) (by assumption) ?_ (by rfl) (by rfl); k_whole; intro hq9 Fq9 Nq9 Zq9; (try k_sweep)))
  trivial
/-- a sized contract that leaves the ledger as it is -/
abbrev CtZ (w : World) (f : Addr) (vs : List Value) (d c : Nat) (news : List (Addr × Obj)) (Ret : Value → Prop) : Prop :=
  ∀ (p : Program) (loose : List Str) (mean : ExcName → Option Value) (mg mb : Str → Option Value) (dp un : Nat) (gd : Option (List Code)) (cn : Str) (cs : Scope) (a : Addr) (ccd : Value) (cl : List (Str × Addr)) (outer : List Env) (A₀ : Around) (base h₀ : Heap) (L : Addr) (m : Str → Option Value) (s : Shared) (Q E : Value → Shared → Prop) (n : Nat),
    s.heap.objs.size = n → Below A₀ base outer h₀ → CodeHd base 34 30 → CodeHd base 41 37 → CodeHd base 62 58 → Fr h₀ L s.heap m → (hd2.heap_39 w.params).In h₀ → News h₀ L s.heap news → Top p loose mean mg mb h₀ → cs.kind = .function → dp + d < recursionLimit → un + 8 * d < cLine →
    (∀ r h' tk', Fr h₀ L h' m → News h₀ L h' news → h'.objs.size = n + c → Ret r → Q r { s with heap := h', toks := tk' }) →
    wpAny (model PySem.Challenge.rw_nq0126_02.row.prog w) (ktrTop dp un gd cn cs L a ccd cl outer) (call (.ref f) vs) Q E s
noncomputable def aheadB (a b : Int × Int) (j k : Nat) : Bool := decide (a.1 * b.2 - b.1 * a.2 < 0) || (decide (a.1 * b.2 - b.1 * a.2 = 0) && decide ((j : Int) < (k : Int)))
theorem mul_bd {a b : Int} (h1 : -(2 ^ 20) < a) (h2 : a < 2 ^ 20) (h3 : 0 < b) (h4 : b ≤ 64) : -(2 ^ 26) ≤ a * b ∧ a * b ≤ 2 ^ 26 := by
  have e1 : a * b ≤ 2 ^ 20 * b := Int.mul_le_mul_of_nonneg_right (by omega) (by omega)
  have e2 : -(2 ^ 20) * b ≤ a * b := Int.mul_le_mul_of_nonneg_right (by omega) (by omega)
  omega
theorem ahead1 (w : World) (Fl : Addr) (vs : List Value) (kk j k : Nat) (tj tk pj pk : Nat) (x1 y1 x2 y2 : Int) (t1 u1 t2 u2 : Tok) (news : List (Addr × Obj)) (hj : j < 1000) (hk : k < 1000) (hvj : vs[j]? = some (.ref pj)) (hvk : vs[k]? = some (.ref pk))
    (ok1 : OkF 64 (x1, y1)) (ok2 : OkF 64 (x2, y2)) (hF : (Fl, listOf vs.toArray kk) ∈ news) (hpj : (pj, pairObj x1 y1 t1 u1) ∈ news) (hpk : (pk, pairObj x2 y2 t2 u2) ∈ news) :
    CtZ w 119 [.ref Fl, .int (j : Int) tj, .int (k : Int) tk] 1 1 news (fun r => r = .bool (aheadB (x1, y1) (x2, y2) j k)) := by
  have hvj' : vs[(j : Int).toNat]? = some (.ref pj) := by rw [Int.toNat_natCast]; exact hvj
  have hvk' : vs[(k : Int).toNat]? = some (.ref pk) := by rw [Int.toNat_natCast]; exact hvk
  obtain ⟨a1, a2, a3, a4, _⟩ := ok1
  obtain ⟨b1, b2, b3, b4, _⟩ := ok2
  dsimp only at a1 a2 a3 a4 b1 b2 b3 b4
  have m1 := mul_bd a1 a2 b3 b4
  have m2 := mul_bd b1 b2 a3 a4
  unfold CtZ; k_fill
  intro p loose mean mg mb dp un gd cn cs a ccd cl outer A₀ base h₀ L m s Q E n Z B C1 C2 C3 F X N T hk' hd hu hret
  refine wpAny_call ?_
  k_dflt (refine' codeDefZ ?k1 ?k2 ?k3 ?k4 ?k5 ?kA ?kF ?kK ?kZ ?k6 ?k7 ?k8 ?k9 ?kB ?_ ?c2 ?c3 ?c4 ?c5; (case kA => exact rfl); (case kF => exact rfl); (case kK => assumption); (case kZ => assumption); (case k1 => k_asm); (case k2 => k_asm); (case k3 => k_asm); (case k4 => k_asm); (case k5 => k_asm); (case k6 => k_is); (case k7 => k_is); (case k8 => k_room); (case k9 => exact BindsTo.of_eq rfl); (case kB => exact locs rfl); (case c2 => exact rfl); (case c3 => exact rfl); (case c4 => exact rfl); (case c5 => decide); intro g' L' h' FG' F' N' B' X' T' Z'; (try dsimp only); (try k_lift B'); (try k_fold))
  w_strict k_steps
  all_goals refine hret _ _ _ (by k_asm) (by k_asm) (by assumption) (congrArg Value.bool ?_)
  all_goals unfold aheadB
  all_goals dsimp only
  all_goals generalize x1 * y2 - x2 * y1 = e at *
  · have h : e < 0 := by assumption
    rw [decide_eq_true h, Bool.true_or]
  · have h : ¬ e < 0 := by assumption
    have h2 : e = 0 := by assumption
    rw [decide_eq_false h, decide_eq_true h2, Bool.false_or, Bool.true_and]
  · have h : ¬ e < 0 := by assumption
    have h2 : ¬ e = 0 := by assumption
    rw [decide_eq_false h, decide_eq_false h2, Bool.false_or, Bool.false_and]
    simpa using h2
end Mine
end SecAH
section SecRZ
theorem Mine.offRZ : True := by
  w_top off
  k_with_none
  trivial
open PySem PySem.W PyProof.Rows PySem.Spec PySem.Calls PyProof.Rows.LCg
set_option maxRecDepth 100000
set_option maxHeartbeats 8000000
namespace Mine
section
variable {prog : Program} {w : World} {A : Around} {E : Value → Shared → Prop} {s : Shared}
theorem rangeEndZ {it : Addr} {x left step : Int} {Q : Option Value → Shared → Prop} (hh : A.handled = none) (hit : IsRangeIter s.heap it x left step) (hleft : left ≤ 0)
    (hQ : ∀ h', Heap.ExtBut it s.heap h' → h'.objs.size = s.heap.objs.size + 2 → Q none { s with heap := h' }) : wpAny (model prog w) A (pyNext (.ref it)) Q E s := by
  have hT : s.TypeIs (.ref it) "range_iterator" := ⟨_, hit, rfl⟩
  unfold pyNext
  refine wpAny_bind (wpAny_attempt (wpAny_callSpecial?_slot (name := Str.ofString "__next__") hT F.slot_range_iterator_next
    (wpAny_call_entry F.slot_range_iterator_next hT F.entry_range_iterator_next ?_ (F.args_range_iterator_next_1 _))))
  show wpAny _ _ (field (.ref it) 0 >>= _) _ _ s
  refine wpAny_bind (wpAny_field hit rfl (x := rawInt x) rfl ?_)
  show wpAny _ _ (field (.ref it) 1 >>= _) _ _ s
  refine wpAny_bind (wpAny_field hit rfl (x := rawInt left) rfl ?_)
  show wpAny _ _ (field (.ref it) 2 >>= _) _ _ s
  refine wpAny_bind (wpAny_field hit rfl (x := rawInt step) rfl ?_)
  show wpAny _ _ (if left ≤ 0 then _ else _) _ _ s
  rw [if_pos hleft]
  refine wpAny_bind (wpAny_rule ?_)
  refine wpAny_bind ?_
  show wpAny _ _ (newExc (.type "StopIteration") [] >>= _) _ _ _
  refine wpAny_bind ?_
  simp only [newExc, newTuple]
  refine wpAny_bind (wpAny_newObj_type ?_ (by size_fits))
  refine wpAny_bind (m := firstArgMember _ _) (wpAny_of_eq (a := Value.none) (by first | rfl | (simp only [firstArgMember]; rfl)) ?_)
  refine wpAny_newObj_type ?_ (by size_fits)
  simp only [raiseNew]
  refine wpAny_bind (wpAny_handled ?_)
  first | rw [show A.in1.handled = none from hh] | rw [hh]
  refine wpAny_bind (wpAny_pure (wpAny_throw ?_))
  refine wpAny_bind (wpAny_isInstance (T := "StopIteration") (b := true) ⟨_, Heap.get?_push_size _ rfl, rfl⟩ isSubtype_stop ?_)
  exact wpAny_pure (hQ _ (((Heap.ExtBut.refl it s.heap).push _).push _) (by rw [Heap.size_push, Heap.size_push]))
end
/-- what an element's walk hands on to the loop -/
inductive CEnd (h₀ : Heap) (L : Addr) (m : Str → Option Value) (s : Shared) (I : Addr) (oI : Obj) (C D : Addr) (ys : List Value) (J : Value → List (Addr × Obj) → Nat → Prop) (y : Value) (s₂ : Shared) : Prop
  | mk (h' : Heap) (tk : Nat) (news' : List (Addr × Obj)) (oC : Obj) (w1 : s₂ = { s with heap := h', toks := tk }) (w2 : Fr h₀ L h' m) (w3 : News h₀ L h' ((I, oI) :: (C, oC) :: (D, lst ys) :: news')) (w4 : ∀ p ∈ news', p.1 ≠ I ∧ p.1 ≠ C ∧ p.1 ≠ D) (w5 : ∃ m₂, NsObj oC m₂) (w6 : J y news' h'.objs.size)
inductive LoopI (h₀ : Heap) (L : Addr) (m : Str → Option Value) (s : Shared) (I C D : Addr) (n : Nat) (J : Nat → List Value → List (Addr × Obj) → Nat → Prop) (k : Nat) (s' : Shared) : Prop
  | mk (h' : Heap) (tk i : Nat) (ys : List Value) (news : List (Addr × Obj)) (oC : Obj) (w1 : s' = { s with heap := h', toks := tk }) (w2 : i ≤ n) (w3 : k = n + 1 - i) (w4 : ys.length ≤ i) (w5 : IsRangeIter h' I i ((n : Int) - i) 1) (w6 : Fr h₀ L h' m) (w7 : News h₀ L h' ((C, oC) :: (D, lst ys) :: news)) (w8 : ∀ p ∈ news, p.1 ≠ I ∧ p.1 ≠ C ∧ p.1 ≠ D) (w9 : ∃ m₂, NsObj oC m₂) (w10 : J i ys news h'.objs.size)
section
variable {prog : Program} {w : World} {A : Around} {E : Value → Shared → Prop} {s : Shared} {h₀ : Heap} {L : Addr} {m : Str → Option Value}
abbrev rgO (i left : Int) : Obj := { cls := .type "range_iterator", dict := none, data := .fields #[rawInt i, rawInt left, rawInt 1], slots := #[] }
theorem loopJ {elt iter : Expr} {ifs : List Expr} {x : Str} {px : Pos} {scope : Scope} {pos : Pos} {cenv : Env} {I C D : Addr} {n : Nat} {Q : Value → Shared → Prop} {E' : Value → Shared → Prop} (J : Nat → List Value → List (Addr × Obj) → Nat → Prop) (hh : A.handled = none) (hsz : n ≤ sizeLine)
    (hIC : I ≠ C) (hID : I ≠ D) (hCD : C ≠ D) (hIL : L ≠ I) (hCL : C ≠ L) (hDL : D ≠ L) (hI₀ : h₀.get? I = none) (hC₀ : h₀.get? C = none) (hD₀ : h₀.get? D = none)
    (turn : ∀ i ys news h tk oC t (E' : Value → Shared → Prop), i < n → Fr h₀ L h m → News h₀ L h ((I, rgO (i + 1) ((n : Int) - i - 1)) :: (C, oC) :: (D, lst ys) :: news) → (∀ p ∈ news, p.1 ≠ I ∧ p.1 ≠ C ∧ p.1 ≠ D) → (∃ m₂, NsObj oC m₂) → J i ys news h.objs.size →
      wpAny (model prog w) A (assign (.Name x px) cenv (.int (i : Int) t)) (fun _ s₂ => wpAny (model prog w) A (forIn ifs true fun c r => if r = true then do let ok ← isTrue c cenv (eval c cenv); pure (ForInStep.yield ok) else pure (ForInStep.yield r)) (fun ok s₃ =>
        if ok = true then wpAny (model prog w) A (eval elt cenv) (CEnd h₀ L m s I (rgO (i + 1) ((n : Int) - i - 1)) C D ys fun y news' z => J (i + 1) (ys ++ [y]) news' z) E' s₃
        else CEnd h₀ L m s I (rgO (i + 1) ((n : Int) - i - 1)) C D ys (fun _ news' z => J (i + 1) ys news' z) .none s₃) E' s₂) E' { s with heap := h, toks := tk })
    (fin : ∀ ys news h tk z, J n ys news z → Fr h₀ L h m → News h₀ L h ((D, lst ys) :: news) → (∀ p ∈ news, p.1 ≠ D) → h.objs.size = z + 2 → Q (.ref D) { s with heap := h, toks := tk })
    (k : Nat) (s' : Shared) (h : LoopI h₀ L m s I C D n J k s') :
    codeAny (model prog w) A (.compLoop (.ListComp elt [⟨.Name x px, iter, ifs, 0⟩] scope pos) 0 (.ref I) (.ref D) cenv) (compPost (model prog w) A E' none Q (.ref D) C) s' := by
  refine codeAny_compLoop_tests (LoopI h₀ L m s I C D n J) ?_ k h
  rintro k s' ⟨h', tk, i, ys, news, oC, rfl, hi, rfl, hyl, hit, F, N, off, hC, hJ⟩
  by_cases hlt : i < n
  · refine wpAny_pyNext_range_item hit (by omega) fun h₂ hit₂ hs₂ => ?_
    have F₂ : Fr h₀ L h₂ m := F.change hs₂ (Ne.symm hIL) hI₀
    have N₂ : News h₀ L h₂ ((I, rgO (i + 1) ((n : Int) - i - 1)) :: (C, oC) :: (D, lst ys) :: news) := fun p hp => by
      rcases List.mem_cons.mp hp with rfl | hp
      · exact ⟨hit₂, Ne.symm hIL, hI₀⟩
      · refine ⟨hs₂.extBut _ _ ?_ (N p hp).1, (N p hp).2⟩
        rcases List.mem_cons.mp hp with rfl | hp
        · exact Ne.symm hIC
        · rcases List.mem_cons.mp hp with rfl | hp
          · exact Ne.symm hID
          · exact (off p hp).1
    have hz : h₂.objs.size = h'.objs.size := hs₂.1
    refine wpAny_mono (turn i ys news h₂ _ oC _ _ hlt F₂ N₂ off hC (hz.symm ▸ hJ)) (fun _ s₂ h2 => wpAny_mono h2 (fun ok s₃ h3 => ?_) fun _ _ e => e) fun _ _ e => e
    cases ok with
    | false =>
      simp only [Bool.false_eq_true, if_false] at h3 ⊢
      obtain ⟨h₄, tk₄, news₄, oC₄, rfl, F₄, N₄, off₄, hC₄, J₄⟩ := h3
      exact ⟨n + 1 - (i + 1), by omega, ⟨h₄, tk₄, i + 1, ys, news₄, oC₄, rfl, hlt, rfl, by omega, by have := (N₄ _ (.head _)).1; rw [show (n : Int) - ((i + 1 : Nat) : Int) = (n : Int) - i - 1 from by omega, show (((i + 1 : Nat) : Int)) = (i : Int) + 1 from rfl]; exact this, F₄, fun p hp => N₄ p (.tail _ hp), off₄, hC₄, J₄⟩⟩
    | true =>
      simp only [if_true] at h3 ⊢
      refine wpAny_mono h3 (fun y s₄ h4 => ?_) fun _ _ e => e
      obtain ⟨h₄, tk₄, news₄, oC₄, rfl, F₄, N₄, off₄, ⟨m₂, hC₄⟩, J₄⟩ := h4
      have zD := (N₄ (D, lst ys) (.tail _ (.tail _ (.head _)))).1
      have zI := (N₄ _ (.head _)).1
      refine append_at (hsz := by show ys.toArray.size ≤ sizeLine; rw [List.size_toArray]; omega) zD fun h₅ hs₅ hD₅ => ?_
      refine ⟨n + 1 - (i + 1), by omega, ⟨h₅, tk₄, i + 1, ys ++ [y], news₄, oC₄, rfl, hlt, rfl, by rw [List.length_append, List.length_singleton]; omega, ?_, F₄.change hs₅ hDL hD₀, fun p hp => ?_, off₄, ⟨m₂, hC₄⟩, by rw [hs₅.1]; exact J₄⟩⟩
      · rw [show (n : Int) - ((i + 1 : Nat) : Int) = (n : Int) - i - 1 from by omega, show (((i + 1 : Nat) : Int)) = (i : Int) + 1 from rfl]
        exact hs₅.extBut _ _ hID zI
      · rcases List.mem_cons.mp hp with rfl | hp
        · exact ⟨hs₅.extBut _ _ hCD (N₄ _ (.tail _ (.head _))).1, hCL, hC₀⟩
        · rcases List.mem_cons.mp hp with rfl | hp
          · exact ⟨hD₅.trans (congrArg some (lst_snoc ys y)), hDL, hD₀⟩
          · have q := N₄ p (.tail _ (.tail _ (.tail _ hp)))
            exact ⟨hs₅.extBut _ _ (off₄ p hp).2.2 q.1, q.2⟩
  · obtain rfl : i = n := Nat.le_antisymm hi (Nat.not_lt.mp hlt)
    refine rangeEndZ hh hit (by omega) fun h₂ he hz => ?_
    obtain ⟨m₂, hC⟩ := hC
    have zC := (N (C, oC) (.head _)).1
    refine ⟨m₂, hC.ns (he _ _ (Ne.symm hIC) zC), fun h₃ hs₃ => fin ys news h₃ tk _ hJ ⟨?_, ?_, F.above⟩ (fun p hp => ?_) (fun p hp => (off p hp).2.2) (hs₃.1.trans hz)⟩
    · exact (F.ns.at' fun o e => he _ o hIL e).sameBut hs₃ (Ne.symm hCL)
    · intro b o e
      have h1 : b ≠ I := fun q => by rw [q, hI₀] at e; cases e
      have h2 : b ≠ C := fun q => by rw [q, hC₀] at e; cases e
      exact hs₃.extBut _ _ h2 (he _ _ h1 (F.keep b o e))
    · have q := N p (.tail _ hp)
      have h12 : p.1 ≠ I ∧ p.1 ≠ C := by
        rcases List.mem_cons.mp hp with rfl | hp
        · exact ⟨Ne.symm hID, Ne.symm hCD⟩
        · exact ⟨(off p hp).1, (off p hp).2.1⟩
      exact ⟨hs₃.extBut _ _ h12.2 (he _ _ h12.1 q.1), q.2⟩
end
end Mine
end SecRZ
section SecRC
theorem Mine.offRC : True := by
  w_top off
  k_with_none
  trivial
open PySem PySem.W PyProof.Rows PySem.Spec PySem.Calls PyProof.Rows.LCg
set_option maxRecDepth 100000
set_option maxHeartbeats 8000000
namespace Mine
abbrev testsOf (cenv : Env) (ifs : List Expr) : Sem Bool := forIn ifs true fun c r => if r = true then do let ok ← isTrue c cenv (eval c cenv); pure (ForInStep.yield ok) else pure (ForInStep.yield r)
/-- a comprehension over a range that stands in a variable; its own name is local -/
inductive RSrc (prog : Program) (w : World) (A : Around) (h₀ : Heap) (L : Addr) (m : Str → Option Value) (env : Env) (elt : Expr) (ifs : List Expr) (x : Str) (scope : Scope) (cl : List (Str × Addr)) (Q : Value → Shared → Prop) (xv : Value) (s₁ : Shared) : Prop
  | mk (r : Addr) (t u v : Tok) (n : Nat) (news : List (Addr × Obj)) (J : Nat → List Value → List (Addr × Obj) → Nat → Prop) (w1 : xv = .ref r) (w2 : A.handled = none) (w3 : Fr h₀ L s₁.heap m) (w4 : News h₀ L s₁.heap news) (w5 : IsRange s₁.heap r 0 (n : Int) 1 t u v) (w6 : Builtin.Range.small 0 (n : Int) 1 = true) (w7 : Builtin.Range.rangeSize 0 (n : Int) 1 = (n : Int)) (w8 : n ≤ sizeLine) (w9 : J 0 [] news (s₁.heap.objs.size + 3))
    (w10 : ∀ i ys news I C D h tk oC m₂ t (E' : Value → Shared → Prop), i < n → (@Ne Nat I C ∧ @Ne Nat I D ∧ @Ne Nat C D) → Fr h₀ L h m → News h₀ L h ((I, rgO (i + 1) ((n : Int) - i - 1)) :: (C, oC) :: (D, lst ys) :: news) → (∀ p ∈ news, p.1 ≠ I ∧ p.1 ≠ C ∧ p.1 ≠ D) → NsObj oC m₂ → m₂ x = some (.int (i : Int) t) → J i ys news h.objs.size →
      wpAny (model prog w) A (testsOf (compEnvC scope cl C env) ifs) (fun ok s₃ =>
        if ok = true then wpAny (model prog w) A (eval elt (compEnvC scope cl C env)) (CEnd h₀ L m s₁ I (rgO (i + 1) ((n : Int) - i - 1)) C D ys fun y news' z => J (i + 1) (ys ++ [y]) news' z) E' s₃
        else CEnd h₀ L m s₁ I (rgO (i + 1) ((n : Int) - i - 1)) C D ys (fun _ news' z => J (i + 1) ys news' z) .none s₃) E' { s₁ with heap := h, toks := tk })
    (w11 : ∀ D ys news h tk z, J n ys news z → Fr h₀ L h m → News h₀ L h ((D, lst ys) :: news) → (∀ p ∈ news, p.1 ≠ D) → h.objs.size = z + 2 → Q (.ref D) { s₁ with heap := h, toks := tk })
/-- .. its own name is a cell -/
inductive RSrcC (prog : Program) (w : World) (A : Around) (h₀ : Heap) (L : Addr) (m : Str → Option Value) (env : Env) (elt : Expr) (ifs : List Expr) (x : Str) (scope : Scope) (cl : List (Str × Addr)) (Q : Value → Shared → Prop) (xv : Value) (s₁ : Shared) : Prop
  | mk (r : Addr) (t u v : Tok) (n : Nat) (news : List (Addr × Obj)) (J : Nat → List Value → List (Addr × Obj) → Nat → Prop) (w1 : xv = .ref r) (w2 : A.handled = none) (w3 : Fr h₀ L s₁.heap m) (w4 : News h₀ L s₁.heap news) (w5 : IsRange s₁.heap r 0 (n : Int) 1 t u v) (w6 : Builtin.Range.small 0 (n : Int) 1 = true) (w7 : Builtin.Range.rangeSize 0 (n : Int) 1 = (n : Int)) (w8 : n ≤ sizeLine) (w9 : J 0 [] news (s₁.heap.objs.size + 4))
    (w10 : ∀ i ys news I C D c h tk oC oc t (E' : Value → Shared → Prop), i < n → (@Ne Nat I C ∧ @Ne Nat I D ∧ @Ne Nat C D) → Fr h₀ L h m → News h₀ L h ((I, rgO (i + 1) ((n : Int) - i - 1)) :: (C, oC) :: (D, lst ys) :: (c, oc) :: news) → (∀ p ∈ (c, oc) :: news, p.1 ≠ I ∧ p.1 ≠ C ∧ p.1 ≠ D) → (∀ p ∈ news, p.1 ≠ c) → (∃ m₂, NsObj oC m₂) → oc.data = .cell (some (.int (i : Int) t)) → J i ys news h.objs.size →
      wpAny (model prog w) A (testsOf (compEnvC scope ((x, c) :: cl) C env) ifs) (fun ok s₃ =>
        if ok = true then wpAny (model prog w) A (eval elt (compEnvC scope ((x, c) :: cl) C env)) (CEnd h₀ L m s₁ I (rgO (i + 1) ((n : Int) - i - 1)) C D ys fun y news' z => ∃ oc' v' rest, news' = (c, oc') :: rest ∧ oc'.data = .cell v' ∧ (∀ p ∈ rest, p.1 ≠ c) ∧ J (i + 1) (ys ++ [y]) rest z) E' s₃
        else CEnd h₀ L m s₁ I (rgO (i + 1) ((n : Int) - i - 1)) C D ys (fun _ news' z => ∃ oc' v' rest, news' = (c, oc') :: rest ∧ oc'.data = .cell v' ∧ (∀ p ∈ rest, p.1 ≠ c) ∧ J (i + 1) ys rest z) .none s₃) E' { s₁ with heap := h, toks := tk })
    (w11 : ∀ D ys news h tk z, J n ys news z → Fr h₀ L h m → News h₀ L h ((D, lst ys) :: news) → (∀ p ∈ news, p.1 ≠ D) → h.objs.size = z + 2 → Q (.ref D) { s₁ with heap := h, toks := tk })
section
variable {prog : Program} {w : World} {A : Around} {E : Value → Shared → Prop} {s : Shared} {h₀ : Heap} {L : Addr} {m : Str → Option Value} {env : Env}
theorem newCompEnv {M : Model} {scope : Scope} {globals : Addr} {cl : List (Str × Addr)} {qual : Str} {Q : Env → Shared → Prop}
    (h : Q (newEnv scope s.heap.objs.size globals (cellsFrom (s.heap.objs.size + 1) scope.names cl) qual none .none (some env) builtinsNs) { s with heap := pushCells (s.heap.push { cls := .type "dict", data := .dict #[] }) scope.names }) :
    wpAny M A (newFunctionEnv scope globals cl [] qual none .none (some env)) Q E s := by
  simp only [newFunctionEnv, Option.isSome_some, if_true]
  refine wpAny_bind (wpAny_alloc ?_)
  refine wpAny_bind (wpAny_layCells _ (fun name kind cells => by cases hkc : kind == NameKind.cell <;> simp [hkc]) _ _ _ _ ?_)
  rw [show ({ s with heap := s.heap.push { cls := .type "dict", data := .dict #[] } } : Shared).heap.objs.size = s.heap.objs.size + 1 from Heap.size_push ..]
  refine wpAny_bind ?_
  show wpAny _ _ (forIn [] _ _) _ _ _
  rw [List.forIn_nil]
  exact wpAny_pure (wpAny_pure h)
theorem nsNew (h : Heap) : NsObj { cls := .type "dict", data := .dict #[] } fun _ => none := by
  obtain ⟨o, e, n⟩ := ns_obj (Heap.Ns.new h (.type "dict"))
  rw [Heap.get?_push_size _ rfl] at e
  cases e
  exact n
theorem fresh0 {h : Heap} (F : Fr h₀ L h m) {a : Addr} (ha : h.objs.size ≤ a) : h₀.get? a = none := by
  cases e : h₀.get? a with
  | none => rfl
  | some o' => exact absurd (Heap.lt_size (F.keep a o' e)) (Nat.not_lt.mpr ha)
theorem compR {elt iter : Expr} {ifs : List Expr} {x : Str} {px : Pos} {scope : Scope} {cl : List (Str × Addr)} {pos : Pos} {Q : Value → Shared → Prop} (_F₀ : Fr h₀ L s.heap m)
    (hclos : closureFor scope env = pure cl) (hpc : ∀ h, pushCells h scope.names = h) (hcf : ∀ n, cellsFrom n scope.names cl = cl) (hkind : scope.kind = .function)
    (hnames : ∀ y ∈ scope.names, y.2 = .local → scope.names.lookup y.1 = some .local) (hx : scope.names.lookup x = some .local)
    (h : wpAny (model prog w) A (eval iter env) (RSrc prog w A h₀ L m env elt ifs x scope cl Q) E s)
    (hs : ∀ x, foldedSetIterable iter env x = pure x := by intro _; rfl) :
    wpAny (model prog w) A (eval (.ListComp elt [⟨.Name x px, iter, ifs, 0⟩] scope pos) env) Q E s := by
  rw [eval_ListComp]
  refine wpAny_comprehension_free (use := none) rfl hs hclos hkind hnames (wpAny_mono h (fun xv s₁ h₁ => ?_) fun _ _ e => e)
  obtain ⟨r, t, u, v, n, news, J, rfl, hh, F, N, hr, hsm, hrs, hsz, hJ, turn, fin⟩ := h₁
  refine wpAny_pyIter_range hr hsm ?_
  rw [hrs]
  refine wpAny_newObj_type (newCompEnv ?_) (by size_fits)
  rw [hpc, hcf]
  dsimp only
  generalize hH1 : s₁.heap.push { cls := .type "range_iterator", data := .fields #[rawInt 0, rawInt (n : Int), rawInt 1] } = H1
  generalize hH2 : H1.push { cls := .type "list", data := .seq ([] : List Value).toArray } = H2
  generalize hH3 : H2.push { cls := .type "dict", data := .dict #[] } = H3
  have z1 : H1.objs.size = s₁.heap.objs.size + 1 := by rw [← hH1, Heap.size_push]
  have z2 : H2.objs.size = H1.objs.size + 1 := by rw [← hH2, Heap.size_push]
  have z3 : H3.objs.size = s₁.heap.objs.size + 3 := by rw [← hH3, Heap.size_push, z2, z1]
  have u1 : ∀ b o, s₁.heap.get? b = some o → H1.get? b = some o := fun b o e => hH1 ▸ Heap.get?_push_of_some _ e
  have u2 : ∀ b o, H1.get? b = some o → H2.get? b = some o := fun b o e => hH2 ▸ Heap.get?_push_of_some _ e
  have u3 : ∀ b o, H2.get? b = some o → H3.get? b = some o := fun b o e => hH3 ▸ Heap.get?_push_of_some _ e
  have gI : H3.get? s₁.heap.objs.size = some (rgO 0 (n : Int)) := u3 _ _ (u2 _ _ (hH1 ▸ Heap.get?_push_size _ rfl))
  have gD : H3.get? H1.objs.size = some (lst []) := u3 _ _ (hH2 ▸ Heap.get?_push_size _ rfl)
  have gC : H3.get? H2.objs.size = some { cls := .type "dict", data := .dict #[] } := hH3 ▸ Heap.get?_push_size _ rfl
  have lL : @LT.lt Nat _ L s₁.heap.objs.size := F.ns.lt
  have lC : @LT.lt Nat _ L H2.objs.size := by omega
  have lD : @LT.lt Nat _ L H1.objs.size := by omega
  have fC : h₀.get? H2.objs.size = none := fresh0 F (by omega)
  have fD : h₀.get? H1.objs.size = none := fresh0 F (by omega)
  have dist : (@Ne Nat s₁.heap.objs.size H2.objs.size ∧ @Ne Nat s₁.heap.objs.size H1.objs.size ∧ @Ne Nat H2.objs.size H1.objs.size) := by omega
  have hit : IsRangeIter H3 s₁.heap.objs.size ((0 : Nat) : Int) ((n : Int) - ((0 : Nat) : Int)) 1 := by
    rw [show (n : Int) - ((0 : Nat) : Int) = (n : Int) from by omega]; exact gI
  have loop : ∀ tk, codeAny (model prog w) A (.compLoop (.ListComp elt [⟨.Name x px, iter, ifs, 0⟩] scope pos) 0 (.ref s₁.heap.objs.size) (.ref H1.objs.size) (compEnvC scope cl H2.objs.size env)) (compPost (model prog w) A E none Q (.ref H1.objs.size) H2.objs.size) { s₁ with heap := H3, toks := tk } := fun tk => by
    refine loopJ (n := n) J hh hsz dist.1 dist.2.1 dist.2.2 (Nat.ne_of_lt lL) (Nat.ne_of_gt lC) (Nat.ne_of_gt lD) (fresh0 F (Nat.le_refl _)) fC fD ?_ (fun ys news => fin _ ys news) (n + 1) _
      ⟨H3, tk, 0, [], news, _, rfl, Nat.zero_le _, rfl, Nat.le_refl _, hit, F.keeps fun b o e => u3 _ _ (u2 _ _ (u1 _ _ e)), fun p hp => ?_, fun p hp => ?_, ⟨_, nsNew H2⟩, by rw [z3]; exact hJ⟩
    · intro i ys news' h' tk' oC t' E' hi F' N' off' hC' hJ'
      obtain ⟨m₂, hC'⟩ := hC'
      have zC := (N' _ (.tail _ (.head _))).1
      refine wpAny_assign_Name (wpAny_storeName_local (lookup_relabel_local hx) (hC'.ns zC) (fun h₃ hn₃ hs₃ => ?_) (by simp [compEnvC, relabel, hkind]))
      obtain ⟨oC₃, eC, hC₃⟩ := ns_obj hn₃
      refine turn i ys news' _ _ _ h₃ _ oC₃ _ t' _ hi dist (F'.change hs₃ (Nat.ne_of_gt lC) fC) (fun p hp => ?_) off' hC₃ (by simp) (by rw [hs₃.1]; exact hJ')
      rcases List.mem_cons.mp hp with rfl | hp
      · exact ⟨hs₃.extBut _ _ dist.1 (N' _ (.head _)).1, (N' _ (.head _)).2⟩
      · rcases List.mem_cons.mp hp with rfl | hp
        · exact ⟨eC, (N' _ (.tail _ (.head _))).2⟩
        · have q := N' p (.tail _ (.tail _ hp))
          refine ⟨hs₃.extBut _ _ ?_ q.1, q.2⟩
          rcases List.mem_cons.mp hp with rfl | hp
          · exact Ne.symm dist.2.2
          · exact (off' p hp).2.1
    · rcases List.mem_cons.mp hp with rfl | hp
      · exact ⟨gC, Nat.ne_of_gt lC, fC⟩
      · rcases List.mem_cons.mp hp with rfl | hp
        · exact ⟨gD, Nat.ne_of_gt lD, fD⟩
        · exact ⟨u3 _ _ (u2 _ _ (u1 _ _ (N p hp).1)), (N p hp).2⟩
    · have q : @LT.lt Nat _ p.1 s₁.heap.objs.size := Heap.lt_size (N p hp).1
      have q1 : @LT.lt Nat _ p.1 H1.objs.size := by omega
      have q2 : @LT.lt Nat _ p.1 H2.objs.size := by omega
      exact ⟨Nat.ne_of_lt q, Nat.ne_of_lt q2, Nat.ne_of_lt q1⟩
  exact codeAny_compStart_list (loop _) (wpAny_pyIter_rangeiter hit (loop _))
theorem compRC {elt iter : Expr} {ifs : List Expr} {x : Str} {px : Pos} {scope : Scope} {cl : List (Str × Addr)} {pos : Pos} {Q : Value → Shared → Prop} (_F₀ : Fr h₀ L s.heap m)
    (hclos : closureFor scope env = pure cl) (hpc : ∀ h, pushCells h scope.names = h.push { cls := .type "cell", data := .cell none }) (hcf : ∀ n, cellsFrom n scope.names cl = (x, n) :: cl) (hkind : scope.kind = .function)
    (hnames : ∀ y ∈ scope.names, y.2 = .local → scope.names.lookup y.1 = some .local) (hx : ∀ C c, (compEnvC scope ((x, c) :: cl) C env).kindOf x = some .cell)
    (h : wpAny (model prog w) A (eval iter env) (RSrcC prog w A h₀ L m env elt ifs x scope cl Q) E s)
    (hs : ∀ x, foldedSetIterable iter env x = pure x := by intro _; rfl) :
    wpAny (model prog w) A (eval (.ListComp elt [⟨.Name x px, iter, ifs, 0⟩] scope pos) env) Q E s := by
  rw [eval_ListComp]
  refine wpAny_comprehension_free (use := none) rfl hs hclos hkind hnames (wpAny_mono h (fun xv s₁ h₁ => ?_) fun _ _ e => e)
  obtain ⟨r, t, u, v, n, news, J, rfl, hh, F, N, hr, hsm, hrs, hsz, hJ, turn, fin⟩ := h₁
  refine wpAny_pyIter_range hr hsm ?_
  rw [hrs]
  refine wpAny_newObj_type (newCompEnv ?_) (by size_fits)
  rw [hpc, hcf]
  dsimp only
  generalize hH1 : s₁.heap.push { cls := .type "range_iterator", data := .fields #[rawInt 0, rawInt (n : Int), rawInt 1] } = H1
  generalize hH2 : H1.push { cls := .type "list", data := .seq ([] : List Value).toArray } = H2
  have z2' : H2.objs.size + 1 = (H2.push { cls := .type "dict", data := .dict #[] }).objs.size := by rw [Heap.size_push]
  rw [z2']
  generalize hH3 : H2.push { cls := .type "dict", data := .dict #[] } = H3
  generalize hH4 : H3.push { cls := .type "cell", data := .cell none } = H4
  have z1 : H1.objs.size = s₁.heap.objs.size + 1 := by rw [← hH1, Heap.size_push]
  have z2 : H2.objs.size = s₁.heap.objs.size + 2 := by rw [← hH2, Heap.size_push, z1]
  have z3 : H3.objs.size = s₁.heap.objs.size + 3 := by rw [← hH3, Heap.size_push, z2]
  have z4 : H4.objs.size = s₁.heap.objs.size + 4 := by rw [← hH4, Heap.size_push, z3]
  have u1 : ∀ b o, s₁.heap.get? b = some o → H1.get? b = some o := fun b o e => hH1 ▸ Heap.get?_push_of_some _ e
  have u2 : ∀ b o, H1.get? b = some o → H2.get? b = some o := fun b o e => hH2 ▸ Heap.get?_push_of_some _ e
  have u3 : ∀ b o, H2.get? b = some o → H3.get? b = some o := fun b o e => hH3 ▸ Heap.get?_push_of_some _ e
  have u4 : ∀ b o, H3.get? b = some o → H4.get? b = some o := fun b o e => hH4 ▸ Heap.get?_push_of_some _ e
  have gI : H4.get? s₁.heap.objs.size = some (rgO 0 (n : Int)) := u4 _ _ (u3 _ _ (u2 _ _ (hH1 ▸ Heap.get?_push_size _ rfl)))
  have gD : H4.get? H1.objs.size = some (lst []) := u4 _ _ (u3 _ _ (hH2 ▸ Heap.get?_push_size _ rfl))
  have gC : H4.get? H2.objs.size = some { cls := .type "dict", data := .dict #[] } := u4 _ _ (hH3 ▸ Heap.get?_push_size _ rfl)
  have gc : H4.get? H3.objs.size = some { cls := .type "cell", data := .cell none } := hH4 ▸ Heap.get?_push_size _ rfl
  have lL : @LT.lt Nat _ L s₁.heap.objs.size := F.ns.lt
  have lC : @LT.lt Nat _ L H2.objs.size := by omega
  have lD : @LT.lt Nat _ L H1.objs.size := by omega
  have lc : @LT.lt Nat _ L H3.objs.size := by omega
  have fC : h₀.get? H2.objs.size = none := fresh0 F (by omega)
  have fD : h₀.get? H1.objs.size = none := fresh0 F (by omega)
  have fc : h₀.get? H3.objs.size = none := fresh0 F (by omega)
  have dist : (@Ne Nat s₁.heap.objs.size H2.objs.size ∧ @Ne Nat s₁.heap.objs.size H1.objs.size ∧ @Ne Nat H2.objs.size H1.objs.size) := by omega
  have distc : (@Ne Nat H3.objs.size s₁.heap.objs.size ∧ @Ne Nat H3.objs.size H2.objs.size ∧ @Ne Nat H3.objs.size H1.objs.size) := by omega
  have hit : IsRangeIter H4 s₁.heap.objs.size ((0 : Nat) : Int) ((n : Int) - ((0 : Nat) : Int)) 1 := by
    rw [show (n : Int) - ((0 : Nat) : Int) = (n : Int) from by omega]; exact gI
  have loop : ∀ tk, codeAny (model prog w) A (.compLoop (.ListComp elt [⟨.Name x px, iter, ifs, 0⟩] scope pos) 0 (.ref s₁.heap.objs.size) (.ref H1.objs.size) (compEnvC scope ((x, H3.objs.size) :: cl) H2.objs.size env)) (compPost (model prog w) A E none Q (.ref H1.objs.size) H2.objs.size) { s₁ with heap := H4, toks := tk } := fun tk => by
    refine loopJ (n := n) (fun i ys news z => ∃ oc v' rest, news = (H3.objs.size, oc) :: rest ∧ oc.data = .cell v' ∧ (∀ p ∈ rest, p.1 ≠ H3.objs.size) ∧ J i ys rest z) hh hsz dist.1 dist.2.1 dist.2.2 (Nat.ne_of_lt lL) (Nat.ne_of_gt lC) (Nat.ne_of_gt lD) (fresh0 F (Nat.le_refl _)) fC fD ?_ ?_ (n + 1) _
      ⟨H4, tk, 0, [], (H3.objs.size, { cls := .type "cell", data := .cell none }) :: news, _, rfl, Nat.zero_le _, rfl, Nat.le_refl _, hit, F.keeps fun b o e => u4 _ _ (u3 _ _ (u2 _ _ (u1 _ _ e))), fun p hp => ?_, fun p hp => ?_, ⟨_, nsNew H2⟩, ⟨_, _, news, rfl, rfl, fun p hp => ?_, by rw [z4]; exact hJ⟩⟩
    · rintro i ys _ h' tk' oC t' E' hi F' N' off' hC' ⟨oc, v', rest, rfl, hoc, offc, hJ'⟩
      have zc := N' (H3.objs.size, oc) (.tail _ (.tail _ (.tail _ (.head _))))
      refine wpAny_assign_Name (wpAny_storeName_cell hkind (hx _ _) (by simp [compEnvC, List.lookup_cons]) ⟨oc, zc.1, hoc⟩ fun h₃ hc₃ hs₃ => ?_)
      obtain ⟨oc₃, ec, hoc₃⟩ := hc₃
      refine turn i ys rest _ _ _ _ h₃ _ oC oc₃ t' _ hi dist (F'.change hs₃ (Nat.ne_of_gt lc) fc) (fun p hp => ?_) (fun p hp => ?_) offc hC' hoc₃ (by rw [hs₃.1]; exact hJ')
      · rcases List.mem_cons.mp hp with rfl | hp
        · exact ⟨hs₃.extBut _ _ (Ne.symm distc.1) (N' _ (.head _)).1, (N' _ (.head _)).2⟩
        · rcases List.mem_cons.mp hp with rfl | hp
          · exact ⟨hs₃.extBut _ _ (Ne.symm distc.2.1) (N' _ (.tail _ (.head _))).1, (N' _ (.tail _ (.head _))).2⟩
          · rcases List.mem_cons.mp hp with rfl | hp
            · exact ⟨hs₃.extBut _ _ (Ne.symm distc.2.2) (N' _ (.tail _ (.tail _ (.head _)))).1, (N' _ (.tail _ (.tail _ (.head _)))).2⟩
            · rcases List.mem_cons.mp hp with rfl | hp
              · exact ⟨ec, zc.2⟩
              · have q := N' p (.tail _ (.tail _ (.tail _ (.tail _ hp))))
                exact ⟨hs₃.extBut _ _ (offc p hp) q.1, q.2⟩
      · rcases List.mem_cons.mp hp with rfl | hp
        · exact distc
        · exact off' p (.tail _ hp)
    · rintro ys _ h' tk' z ⟨oc, v', rest, rfl, hoc, offc, hJ'⟩ F' N' off' hz
      refine fin _ ys rest h' tk' z hJ' F' (fun p hp => N' p ?_) (fun p hp => off' p (.tail _ hp)) hz
      rcases List.mem_cons.mp hp with rfl | hp
      · exact .head _
      · exact .tail _ (.tail _ hp)
    · rcases List.mem_cons.mp hp with rfl | hp
      · exact ⟨gC, Nat.ne_of_gt lC, fC⟩
      · rcases List.mem_cons.mp hp with rfl | hp
        · exact ⟨gD, Nat.ne_of_gt lD, fD⟩
        · rcases List.mem_cons.mp hp with rfl | hp
          · exact ⟨gc, Nat.ne_of_gt lc, fc⟩
          · exact ⟨u4 _ _ (u3 _ _ (u2 _ _ (u1 _ _ (N p hp).1))), (N p hp).2⟩
    · rcases List.mem_cons.mp hp with rfl | hp
      · exact distc
      · have q : @LT.lt Nat _ p.1 s₁.heap.objs.size := Heap.lt_size (N p hp).1
        have q1 : @LT.lt Nat _ p.1 H1.objs.size := by omega
        have q2 : @LT.lt Nat _ p.1 H2.objs.size := by omega
        exact ⟨Nat.ne_of_lt q, Nat.ne_of_lt q2, Nat.ne_of_lt q1⟩
    · have q : @LT.lt Nat _ p.1 s₁.heap.objs.size := Heap.lt_size (N p hp).1
      have q3 : @LT.lt Nat _ p.1 H3.objs.size := by omega
      exact Nat.ne_of_lt q3
  exact codeAny_compStart_list (loop _) (wpAny_pyIter_rangeiter hit (loop _))
end
end Mine
end SecRC
section SecPZ
theorem Mine.offPZ : True := by
  w_top off
  k_with_none
  trivial
open PySem PySem.W PyProof.Rows PySem.Spec PySem.Calls PyProof.Rows.LCg
set_option maxRecDepth 100000
set_option maxHeartbeats 8000000
namespace Mine
section
variable {prog : Program} {w : World} {A : Around} {E : Value → Shared → Prop} {s : Shared} {h₀ : Heap} {L : Addr} {m : Str → Option Value} {env : Env} {news : List (Addr × Obj)} {n : Nat}
theorem newTupZ {vs : List Value} {Q : Value → Shared → Prop} (F : Fr h₀ L s.heap m) (N : News h₀ L s.heap news) (Z : s.heap.objs.size = n)
    (h : ∀ l h', Fr h₀ L h' m → News h₀ L h' ((l, tupO vs.toArray) :: news) → (∀ p ∈ news, p.1 < l) → h'.objs.size = n + 1 → Q (.ref l) { s with heap := h' }) (hsz : vs.length ≤ sizeLine) :
    wpAny (model prog w) A (newTuple vs) Q E s :=
  wpAny_newObj_type (h _ _ (F.push _) (News.push F N _) (fun p hp => Heap.lt_size (N p hp).1) (by rw [Heap.size_push, Z])) (by show vs.toArray.size ≤ sizeLine; rw [List.size_toArray]; exact hsz)
theorem storeCZ {cn : Str} {cs : Scope} {ccd : Value} {a c : Addr} {cl : List (Str × Addr)} {x : Str} {v : Value} {v₀ : Option Value} {o : Obj} {g : Obj → List (Addr × Obj)} {Q : Unit → Shared → Prop} (F : Fr h₀ L s.heap m) (N : News h₀ L s.heap news) (Z : s.heap.objs.size = n) (hc : cl.lookup x = some c) (U : UpdF c o news g) (hd : o.data = .cell v₀)
    (h : ∀ h' o', Fr h₀ L h' m → News h₀ L h' (g o') → o'.data = .cell (some v) → h'.objs.size = n → Q () { s with heap := h' })
    (hk : cs.kind = .function := by rfl) (hx : (envX cn cs L a ccd cl).kindOf x = some .cell := by rfl) : wpAny (model prog w) A (storeName (envX cn cs L a ccd cl) x v) Q E s := by
  obtain ⟨own, rest, rfl, hg, h1, h2⟩ := U.split
  have hmem := N (c, o) (List.mem_append_right _ (.head _))
  refine wpAny_storeName_cell hk hx hc ⟨o, hmem.1, hd⟩ fun h' hv hs => ?_
  obtain ⟨o', ho', hd'⟩ := hv
  refine h h' o' ⟨F.ns.sameBut hs (Ne.symm hmem.2.1), fun b ob e => (hs.2 b (fun q => ?_)).trans (F.keep b ob e), F.above⟩ (hg o' ▸ N.setAt h1 h2 hs ho') hd' (hs.1.trans Z)
  rw [q, hmem.2.2] at e; cases e
abbrev rngO (k : Int) (t u v : Tok) : Obj := { cls := .type "range", dict := none, data := .fields #[.int 0 t, .int k u, .int 1 v], slots := #[] }
theorem rangeZ {k : Int} {t : Tok} {Q : Value → Shared → Prop} (F : Fr h₀ L s.heap m) (N : News h₀ L s.heap news) (Z : s.heap.objs.size = n)
    (h : ∀ l h' tk u v, Fr h₀ L h' m → News h₀ L h' ((l, rngO k u t v) :: news) → (∀ p ∈ news, p.1 < l) → h'.objs.size = n + 1 → Q (.ref l) { s with heap := h', toks := tk }) :
    wpAny (model prog w) A (call (.type "range") [.int k t]) Q E s :=
  call_range_1 (h _ _ _ _ _ (F.push _) (News.push F N _) (fun p hp => Heap.lt_size (N p hp).1) (by rw [Heap.size_push, Z]))
/-- an element that is a new tuple of two ints -/
inductive TupEnd (h₀ : Heap) (L : Addr) (m : Str → Option Value) (s : Shared) (all : List (Addr × Obj)) (n : Nat) (a : Int × Int) (y : Value) (s₂ : Shared) : Prop
  | mk (t : Addr) (t1 t2 : Tok) (h' : Heap) (tk : Nat) (w1 : y = .ref t) (w2 : s₂ = { s with heap := h', toks := tk }) (w3 : Fr h₀ L h' m) (w4 : News h₀ L h' ((t, pairObj a.1 a.2 t1 t2) :: all)) (w5 : ∀ p ∈ all, p.1 < t) (w6 : h'.objs.size = n + 1)
theorem PairsIn.snoc {W : List (Addr × Obj)} {ys : List Value} {fs : List (Int × Int)} {t : Addr} {t1 t2 : Tok} {a : Int × Int} (h : PairsIn W ys fs) : PairsIn ((t, pairObj a.1 a.2 t1 t2) :: W) (ys ++ [.ref t]) (fs ++ [a]) := by
  refine ⟨by rw [List.length_append, List.length_append, h.1]; rfl, fun i hi => ?_⟩
  rw [List.length_append, List.length_singleton] at hi
  by_cases q : i < fs.length
  · obtain ⟨p, u1, u2, e1, e2⟩ := h.2 i q
    refine ⟨p, u1, u2, ?_, ?_⟩
    · rw [List.getElem?_append_left (h.1 ▸ q)]; exact e1
    · rw [List.getD_eq_getElem?_getD, List.getElem?_append_left q, ← List.getD_eq_getElem?_getD]; exact .tail _ e2
  · obtain rfl : i = fs.length := by omega
    refine ⟨t, t1, t2, ?_, ?_⟩
    · rw [← h.1, List.getElem?_append_right (Nat.le_refl _), Nat.sub_self]; rfl
    · rw [List.getD_eq_getElem?_getD, List.getElem?_append_right (Nat.le_refl _), Nat.sub_self]; exact .head _
theorem comp_tupZ {elt : Expr} {x : Str} {scope : Scope} {cl : List (Str × Addr)} {S : List (Addr × Obj) → Prop} {P : Nat → Value → Prop} {Fin : Nat → List Value → List (Addr × Obj) → Prop} (f : Nat → Int × Int) (hS : ∀ W, S (W ++ news))
    (step : ∀ i ys v I oI C oC D m₂ h tk news₁ n (E' : Value → Shared → Prop), P i v → NsObj oC m₂ → m₂ x = some v → Fr h₀ L h m → News h₀ L h ((I, oI) :: (C, oC) :: (D, lst ys) :: news₁) → h.objs.size = n →
      wpAny (model prog w) A (eval elt (compEnvC scope cl C env)) (TupEnd h₀ L m s ((I, oI) :: (C, oC) :: (D, lst ys) :: news₁) n (f i)) E' { s with heap := h, toks := tk }) :
    ∀ (k n i : Nat) (ys : List Value) (fs : List (Int × Int)) (W : List (Addr × Obj)), PairsIn W ys fs → (∀ p ∈ W, ∀ q ∈ news, q.1 < p.1) → (∀ zs W', PairsIn W' zs (fs ++ (List.range' i k).map f) → (∀ p ∈ W', ∀ q ∈ news, q.1 < p.1) → Fin (n + k) zs (W' ++ news)) → RestZ prog w A h₀ L m env elt x scope cl s S P Fin k n i ys (W ++ news)
  | 0, n, i, ys, fs, W, hy, hw, fin => RestZ.zero (fin ys W (by simpa using hy) hw)
  | k + 1, n, i, ys, fs, W, hy, hw, fin => RestZ.succ fun v I oI C oC D m₂ h tk E' hv hC hx F N off ne Z => by
    refine wpAny_mono (step i ys v I oI C oC D m₂ h tk (W ++ news) n E' hv hC hx F N Z) (fun y s₂ hq => ?_) fun _ _ e => e
    obtain ⟨t, t1, t2, h', tk', rfl, rfl, F', N', lt, Z'⟩ := hq
    refine EndZ.intro Z' ⟨h', tk', (t, pairObj (f i).1 (f i).2 t1 t2) :: (W ++ news), rfl, F', fun p hp => N' p ?_, ⟨⟨?_, ?_, ?_⟩, off⟩, hS (_ :: W), ?_⟩
    · simp only [List.mem_cons, List.mem_append] at hp ⊢
      rcases hp with h | h | h | h | h | h <;> simp [h]
    · exact Nat.ne_of_gt (lt _ (.head _))
    · exact Nat.ne_of_gt (lt _ (.tail _ (.head _)))
    · exact Nat.ne_of_gt (lt _ (.tail _ (.tail _ (.head _))))
    · refine comp_tupZ f hS step k (n + 1) (i + 1) _ (fs ++ [f i]) ((t, pairObj (f i).1 (f i).2 t1 t2) :: W) hy.snoc (fun p hp q hq => ?_) fun zs W' hz hw' => ?_
      · rcases List.mem_cons.mp hp with rfl | hp
        · exact lt q (.tail _ (.tail _ (.tail _ (List.mem_append_right _ hq))))
        · exact hw p hp q hq
      · have := fin zs W' (by rw [List.range'_succ, List.map_cons]; simpa using hz) hw'
        rwa [show n + 1 + k = n + (k + 1) from by omega]
end
end Mine
end SecPZ
section SecLQd
theorem Mine.offLQd : True := by
  w_top off
  k_with_none
  trivial
open PySem PySem.W PyProof.Rows
namespace Mine
noncomputable def manyOf (fs : List (Int × Int)) (k : Nat) : Nat := ((List.range fs.length).filter fun j => aheadB (fs.getD j (0, 1)) (fs.getD k (0, 1)) j k).length
end Mine
end SecLQd
section SecPL
theorem Mine.offPL : True := by
  w_top off
  k_with_none
  trivial
open PySem PySem.W PyProof.Rows PySem.Spec PySem.Calls
set_option maxRecDepth 100000
set_option maxHeartbeats 2000000
namespace Mine
theorem kf_ints_of {vs : List Value} {ns : List Int} (h : IntsAre vs ns) : kf_ints vs = true := by
  induction h with
  | nil => rfl
  | cons a t r ih => exact ih
theorem kf_at_of {vs : List Value} {ns : List Int} {k : Int} (h : IntsAre vs ns) (hk : k ∈ ns) : kf_at k vs = some (ns.idxOf k) := by
  induction h with
  | nil => cases hk
  | @cons a ns' t vs' r ih =>
    unfold kf_at
    rw [List.idxOf_cons]
    by_cases e : a = k
    · subst e
      simp [isInt]
    · have hk' : k ∈ vs' := by
        rcases List.mem_cons.mp hk with q | q
        · exact absurd q.symm e
        · exact q
      rw [ih hk']
      have q : (a == k) = false := by simpa using e
      simp only [isInt, q, cond_false]
theorem ahead_of {fs : List (Int × Int)} {j k : Nat} : aheadB (fs.getD j (0, 1)) (fs.getD k (0, 1)) j k = true ↔ (lessF (fs.getD j (0, 1)) (fs.getD k (0, 1)) ∨ (likeF (fs.getD j (0, 1)) (fs.getD k (0, 1)) ∧ j < k)) := by
  unfold aheadB lessF likeF
  generalize (fs.getD j (0, 1)).1 * (fs.getD k (0, 1)).2 = a
  generalize (fs.getD k (0, 1)).1 * (fs.getD j (0, 1)).2 = b
  rw [Bool.or_eq_true, Bool.and_eq_true, decide_eq_true_eq, decide_eq_true_eq, decide_eq_true_eq]
  omega
theorem ahead_pre {fs : List (Int × Int)} {j k : Nat} (h : preF fs j k) (hne : j ≠ k) : aheadB (fs.getD j (0, 1)) (fs.getD k (0, 1)) j k = true := by
  rw [ahead_of]
  rcases h with h | ⟨h, h'⟩
  · exact .inl h
  · exact .inr ⟨h, Nat.lt_of_le_of_ne h' hne⟩
theorem not_ahead {fs : List (Int × Int)} {j k : Nat} (h : preF fs k j) : aheadB (fs.getD j (0, 1)) (fs.getD k (0, 1)) j k = false := by
  rw [Bool.eq_false_iff, Ne, ahead_of]
  unfold preF lessF likeF at *
  rintro (q | ⟨q, q'⟩)
  · rcases h with h | ⟨h, _⟩ <;> omega
  · rcases h with h | ⟨_, h'⟩ <;> omega
theorem many_at {fs : List (Int × Int)} {pl : List Nat} (hp : pl.Perm (List.range fs.length)) (hw : pl.Pairwise (preF fs)) {p : Nat} (hpl : p < pl.length) : manyOf fs pl[p] = p := by
  have nd : pl.Nodup := hp.nodup_iff.mpr List.nodup_range
  unfold manyOf
  rw [← (hp.filter _).length_eq]
  have e : pl = pl.take p ++ pl[p] :: pl.drop (p + 1) := by rw [← List.drop_eq_getElem_cons hpl, List.take_append_drop]
  generalize hk : pl[p] = k at *
  have el : (pl.take p).length = p := by rw [List.length_take]; omega
  generalize pl.take p = A at *
  generalize pl.drop (p + 1) = B at *
  subst e
  rw [List.pairwise_append, List.pairwise_cons] at hw
  have ndc := nd
  unfold List.Nodup at ndc
  rw [List.pairwise_append, List.pairwise_cons] at ndc
  have h1 : A.filter (fun j => aheadB (fs.getD j (0, 1)) (fs.getD k (0, 1)) j k) = A := List.filter_eq_self.mpr fun j hj => ahead_pre (hw.2.2 j hj k (.head _)) (ndc.2.2 j hj k (.head _))
  have h2 : (k :: B).filter (fun j => aheadB (fs.getD j (0, 1)) (fs.getD k (0, 1)) j k) = [] := List.filter_eq_nil_iff.mpr fun j hj => by
    rw [Bool.not_eq_true]
    rcases List.mem_cons.mp hj with rfl | hj
    · exact not_ahead (.inr ⟨rfl, Nat.le_refl _⟩)
    · exact not_ahead (hw.2.1.1 j hj)
  rw [List.filter_append, h1, h2, List.append_nil, el]
theorem idx_many {fs : List (Int × Int)} {pl : List Nat} (hp : pl.Perm (List.range fs.length)) (hw : pl.Pairwise (preF fs)) {p : Nat} (hpl : p < pl.length) : ((List.range fs.length).map (manyOf fs)).idxOf p = pl[p] := by
  have hlt : pl[p] < fs.length := List.mem_range.mp (hp.mem_iff.mp (List.getElem_mem hpl))
  have hl : ((List.range fs.length).map (manyOf fs)).length = fs.length := by simp
  unfold List.idxOf
  rw [List.findIdx_eq (by rw [hl]; exact hlt)]
  refine ⟨by simp [many_at hp hw hpl], fun j hj => ?_⟩
  have hjl : j < fs.length := Nat.lt_trans hj hlt
  obtain ⟨q, hq, e⟩ := List.getElem_of_mem (hp.mem_iff.mpr (List.mem_range.mpr hjl))
  have hm : manyOf fs j = q := by rw [← e]; exact many_at hp hw hq
  simp only [List.getElem_map, List.getElem_range, hm, beq_eq_false_iff_ne]
  intro c
  subst c
  rw [e] at hj
  exact Nat.lt_irrefl _ hj
theorem idx_cast {l : List Nat} {j : Nat} : (l.map fun (i : Nat) => (i : Int)).idxOf (j : Int) = l.idxOf j := by
  induction l with
  | nil => rfl
  | cons a r ih =>
    rw [List.map_cons, List.idxOf_cons, List.idxOf_cons, ih]
    by_cases h : a = j
    · subst h; simp
    · have h1 : ((a : Int) == (j : Int)) = false := by rw [beq_eq_false_iff_ne]; omega
      have h2 : (a == j) = false := by simpa using h
      rw [h1, h2]
theorem many_mem {fs : List (Int × Int)} {pl : List Nat} (hp : pl.Perm (List.range fs.length)) (hw : pl.Pairwise (preF fs)) {p : Nat} (hpl : p < fs.length) : p ∈ (List.range fs.length).map (manyOf fs) := by
  have hl : pl.length = fs.length := by have := hp.length_eq; simpa using this
  have hq : p < pl.length := hl ▸ hpl
  exact List.mem_map.mpr ⟨pl[p], hp.mem_iff.mp (List.getElem_mem hq), many_at hp hw hq⟩
/-- the two lists that the law compares -/
theorem laid_is {fs : List (Int × Int)} {pl : List Nat} (hp : pl.Perm (List.range fs.length)) (hw : pl.Pairwise (preF fs)) : pl = (List.range fs.length).map fun p => ((List.range fs.length).map (manyOf fs)).idxOf p := by
  have hl : pl.length = fs.length := by have := hp.length_eq; simpa using this
  apply List.ext_getElem
  · simp [hl]
  · intro i h1 h2
    rw [List.getElem_map, List.getElem_range, idx_many hp hw h1]
theorem laid_map {fs : List (Int × Int)} {pl : List Nat} (hp : pl.Perm (List.range fs.length)) (hw : pl.Pairwise (preF fs)) : (pl.map fun (i : Nat) => (i : Int)) = (List.range fs.length).map fun p => (((List.range fs.length).map (manyOf fs)).idxOf p : Int) := by
  conv => lhs; rw [laid_is hp hw]
  rw [List.map_map]; rfl
/-- the first place is the first least one -/
theorem first_is {fs : List (Int × Int)} {pl : List Nat} (hp : pl.Perm (List.range fs.length)) (hw : pl.Pairwise (preF fs)) (hne : 0 < fs.length) : ((List.range fs.length).map (manyOf fs)).idxOf 0 < fs.length ∧ ∀ k, k < fs.length → preF fs (((List.range fs.length).map (manyOf fs)).idxOf 0) k := by
  have hl : pl.length = fs.length := by have := hp.length_eq; simpa using this
  have h0 : 0 < pl.length := hl ▸ hne
  rw [idx_many hp hw h0]
  refine ⟨List.mem_range.mp (hp.mem_iff.mp (List.getElem_mem h0)), fun k hk => ?_⟩
  have hm := hp.mem_iff.mpr (List.mem_range.mpr hk)
  cases pl with
  | nil => cases hm
  | cons a r =>
    rw [List.pairwise_cons] at hw
    rcases List.mem_cons.mp hm with rfl | hm
    · exact .inr ⟨rfl, Nat.le_refl _⟩
    · exact hw.1 k hm
end Mine
end SecPL
section SecLB
theorem Mine.offLB : True := by
  w_top off
  k_with_none
  trivial
open PySem PySem.W PyProof.Rows PySem.Spec PySem.Calls
set_option maxRecDepth 100000
set_option maxHeartbeats 4000000
namespace Mine
/-- a lambda called whose object stands anywhere in the heap; what the ledger does not hold is kept -/
theorem lamF {prog : Program} {w : World} {A₀ A : Around} {s : Shared} {base h₀ : Heap} {outer : List Env} {L : Addr} {m : Str → Option Value} {env : Env} {news : List (Addr × Obj)} {R : Result → Shared → Prop} {K : Frag} {p : Program} {loose : List Str} {mean : ExcName → Option Value} {mg mb : Str → Option Value}
    {name qual : Str} {params : Arguments} {body : Expr} {scope : Scope} {cl : List (Str × Addr)} {pm ctv : Value} {c' : Addr} {f : Addr} {args : Args} {binds : List (Str × Value)}
    (B : Below A₀ base outer h₀) (F : Fr h₀ L s.heap m) (X₀ : K.In h₀) (N : News h₀ L s.heap news) (T : Top p loose mean mg mb h₀) (hA : A.frames = some (env :: outer)) (hf : env.frame = some L) (hke : env.scope.kind = .function)
    (ho : s.heap.get? f = some (kla_obj name qual params body scope cl pm c' ctv)) (hcd : s.heap.CodeRec (.ref c') qual) (hroom : A.depth < recursionLimit)
    (hbind : bindArgs (kla_fn name qual params body scope cl pm (.ref c') ctv) args = pure binds) (hloc : ∀ y ∈ binds, scope.names.lookup y.1 = some .local)
    (h : ∀ g L' h₁, Fr h₀ L g m → Fr g L' h₁ (fun y => binds.reverse.lookup y) → News g L' h₁ news → Below A base (env :: outer) g → K.In g → Top p loose mean mg mb g → Kept s.heap news g →
      wpAny (model prog w) (A.deeper (envX qual scope L' f (.ref c') cl)) (eval body (envX qual scope L' f (.ref c') cl))
        (fun v s' => LeaveK h₀ L m g R v s')
        (fun e s' => wpAny (model prog w) (A.deeper (envX qual scope L' f (.ref c') cl)) (leaving (envX qual scope L' f (.ref c') cl) e) (fun _ s'' => R (.error e) s'') (fun e' s'' => R (.error e') s'') s')
        { s with heap := h₁, toks := s.toks + binds.length })
    (hco : scope.isCoroutine = false) (hgen : scope.isGenerator = false) (hk : scope.kind = .function)
    (hcell : ∀ x ∈ scope.names, x.2 ≠ .cell) : codeAny (model prog w) A (.call (.ref f) args) R s := by
  obtain ⟨FG, BG, st, lv⟩ := groundX (R := R) B F N hA hf hke
  refine kla_callFunE hroom ho rfl hco hgen rfl hcd ?_
  rw [hbind]
  refine wpAny_pure (wpAny_newFunctionEnv hcell hloc (fun h₁ hns hsb => ⟨((T.nolimit).keeps F.keep).fresh _ hsb, ?_⟩) hk)
  show codeAny _ _ (.expr body (envX qual scope s.heap.objs.size f (.ref c') cl)) _ _
  have hk₁ : ∀ b o, s.heap.get? b = some o → h₁.get? b = some o := fun b o e => hsb.extBut b o (Nat.ne_of_lt (Heap.lt_size e)) (Heap.get?_push_of_some _ e)
  exact kla_codeExpr (wpAny_mono (h _ s.heap.objs.size h₁ FG ⟨hns, fun b o e => hk₁ b o (of_hideAll _ e), Nat.le_of_eq (hideAll_size _ _)⟩
    (fun p hp => ⟨hk₁ _ _ (N p hp).1, Nat.ne_of_lt (Heap.lt_size (N p hp).1), hideAll_none _ (List.mem_map_of_mem hp)⟩) BG (X₀.keeps st) (T.keeps st)
    (fun b o e ne => hideAll_get _ e fun q => by obtain ⟨p, hp, q⟩ := List.mem_map.mp q; exact ne p hp q)) (fun v s' hl => lv _ _ hl) fun _ _ y => y)
end Mine
end SecLB
section SecLC
theorem Mine.offLC : True := by
  w_top off
  k_with_none
  trivial
open PySem PySem.W PyProof.Rows PySem.Spec PySem.Calls
set_option maxRecDepth 100000
set_option maxHeartbeats 4000000
namespace Mine
theorem rulesLC : True := by
  k_with_none
  k_with "call ref" => refine stop ?_
  trivial
/-- the lambda of the law's last statement -/
noncomputable def lamAst (P : Params) : Option (Arguments × Expr × Scope) := match (hd2.heap_39 P).lookup 124 with
  | some ⟨_, _, .func fd, _⟩ => (match fd.body with | .stmts [_, _, _, _, .Return (some (.Compare (.Call _ (.Lambda a b s _ :: _) _ _) _ _ _)) _] => some (a, b, s) | _ => none)
  | _ => none
theorem lamUse {P : Params} {G : Prop} {oc : Value} {od : Option Addr} {nm ql : Str} {ps : Arguments} {s1 s2 s3 s4 : Stmt} {fn lb : Expr} {lp : Arguments} {ls : Scope} {lpos p1 p2 p3 : Pos} {rest es : List Expr} {kw : List Keyword} {ops : List CmpOp} {sc : Scope} {dV kV doc pm cdv ct : Value} {an : Option Addr} {osl : Array (Option Value)}
    (h : (hd2.heap_39 P).lookup 124 = some ⟨oc, od, .func (fnOf nm ql ps [s1, s2, s3, s4, .Return (some (.Compare (.Call fn (.Lambda lp lb ls lpos :: rest) kw p1) ops es p2)) p3] sc dV kV doc pm an cdv ct), osl⟩) (k : lamAst P = some (lp, lb, ls) → G) : G :=
  k (by unfold lamAst; rw [h])
def LamOk (w : World) (G : Frag) (fL : Addr) : Prop := ∀ (v1 v2 : Value) (a1 a2 : Int × Int) (V : List (Addr × Obj)) (ps30 ps37 : Array Value), FracIn G v1 a1 → FracIn G v2 a2 → OkF 64 a1 → OkF 64 a2 → T30 ps30 V → T37 ps37 V → (∀ p ∈ V, p.1 ≠ 30 ∧ p.1 ≠ 37) →
  CtG w G (call (.ref fL) [v1, v2]) 396 ((30, tabObj ps30) :: (37, tabObj ps37) :: V) (fun r news' => RetG [] V (fun r => (lessF a2 a1 ∧ r = v2) ∨ (¬ lessF a2 a1 ∧ r = v1)) r news' ∧ ∀ b o, G.lookup b = some o → ∀ p ∈ news', p.1 ≠ b)
theorem lamOk (w : World) (G : Frag) {lp : Arguments} {lb : Expr} {ls : Scope} (hA : lamAst w.params = some (lp, lb, ls)) {fL cL : Addr} {qual : Str} {pm ctv : Value} {oc : Obj} {vs : Array Value} {tq : Tok} (hf : G.lookup fL = some (kla_obj (Str.ofString "<lambda>") qual lp lb ls [] pm cL ctv)) (hc : G.lookup cL = some oc) (hcd : oc.data = .fields vs) (hcv : vs[1]? = some (.str qual tq)) : LamOk w G fL := by
  intro v1 v2 a1 a2 V ps30 ps37 hf1 hf2 ok1 ok2 t30 t37 oV
  obtain ⟨q1, t11, t12, rfl, l1⟩ := id hf1
  obtain ⟨q2, t21, t22, rfl, l2⟩ := id hf2
  unfold CtG; k_fill
  refine' lamUse (P := w.params) ?h ?_
  case h => k_is
  intro hB
  rw [hA] at hB
  obtain ⟨rfl, rfl, rfl⟩ : lp = _ ∧ lb = _ ∧ ls = _ := by injection hB with hB; injection hB with e1 e2; injection e2 with e2 e3; exact ⟨e1, e2, e3⟩
  clear hA hB
  intro p loose mean mg mb dp un gd cn cs a ccd cl outer A₀ base h₀ L m s Q E B C1 C2 C3 F X KIh N T hk hd hu hret
  refine wpAny_call ?_
  k_dflt (refine' lamF ?k1 ?k2 ?k3 ?k4 ?k5 ?kA ?kF ?kK (KIh _ _ hf).1 ⟨cL, oc, vs, tq, rfl, (KIh _ _ hc).1, hcd, hcv⟩ ?k8 ?k9 ?kB ?_ ?c2 ?c3 ?c4 ?c5; (case kA => exact rfl); (case kF => exact rfl); (case kK => assumption); (case k1 => k_asm); (case k2 => k_asm); (case k3 => k_asm); (case k4 => k_asm); (case k5 => k_asm); (case k8 => k_room); (case k9 => exact rfl); (case kB => exact locs rfl); (case c2 => exact rfl); (case c3 => exact rfl); (case c4 => exact rfl); (case c5 => decide); intro g' L' h' FG' F' N' B' X' T' K1'; (try dsimp only); (try k_lift B'); (try k_fold))
  have XK := inOf KIh K1'
  w_strict k_steps
  unfold Stop
  k_dflt (refine' order1 w [] (fun p hp => nomatch hp) 64 G (.ref q2) (.ref q1) a2 a1 V ps30 ps37 (by decide) hf2 hf1 ok2 ok1 t30 t37 oV _ _ _ _ _ _ _ _ _ _ _ _ _ _ _ _ _ _ _ _ _ _ ?rk1 ?rc1 ?rc2 ?rc3 ?rk2 ?rk3 ?rkI ?rk4 ?rk5 ?rkK ?rkd ?rku ?_; (case rk1 => k_asm); (case rk2 => k_asm); (case rk3 => k_asm); (case rk4 => exact N'); (case rk5 => k_asm); (case rkK => first | exact rfl | assumption))
  (case rc1 => assumption)
  (case rc2 => assumption)
  (case rc3 => assumption)
  (case rkI => exact kiOf XK F' N')
  (case rkd => dsimp only [ktrTop]; omega)
  (case rku => dsimp only [ktrTop]; omega)
  rintro r9 news9 h9 tk9 F9 N9 _ ⟨⟨qs30, qs37, W3, rfl, u30, u37, gr, hW3, cc, tt, rfl, hs⟩, hoff⟩
  dsimp only
  w_strict k_steps
  · exact hret _ _ _ _ (by k_asm) (by k_asm) (kept_ K1' (by k_asm)) ⟨⟨qs30, qs37, W3, rfl, u30, u37, gr, hW3, .inl ⟨hs.1.mp (by assumption), rfl⟩⟩, hoff⟩
  · exact hret _ _ _ _ (by k_asm) (by k_asm) (kept_ K1' (by k_asm)) ⟨⟨qs30, qs37, W3, rfl, u30, u37, gr, hW3, .inr ⟨fun q => absurd (hs.1.mpr q) (by assumption), rfl⟩⟩, hoff⟩
end Mine
end SecLC
section SecRL
theorem Mine.offRL : True := by
  w_top off
  k_with_none
  trivial
open PySem PySem.W PyProof.Rows PySem.Spec PySem.Calls
set_option maxRecDepth 100000
set_option maxHeartbeats 4000000
namespace Mine
/-- a function that a heap keeps -/
def FnK (q : Addr) (g : Heap) : Prop := FnAt q g
theorem FnK.at {q : Addr} {g h : Heap} {L : Addr} {m : Str → Option Value} (H : FnK q g) (F : Fr g L h m) : FnAt q h := by
  obtain ⟨oc, od, fd, sl, e⟩ := H
  exact ⟨oc, od, fd, sl, F.keep _ _ e⟩
theorem rulesRL : True := by
  k_with_none
  k_with "call ref" => refine stop ?_
  k_with "call builtin:iter" => refine stop ?_
  k_with "call builtin:next" => refine stop ?_
  k_with "exec For Name Name cons nil" => refine stop ?_
  k_with "exec For Name Name" => refine stop ?_
  k_with "exec For" => refine stop ?_
  k_with "FItSrc" => refine stop ?_
  k_with "eval Name" => (k_here; k_dflt (refine' ld (by k_asm) (by first | exact rfl | assumption) ?_; k_whole))
  k_with "callWith ref" => (k_here; k_dflt (refine' callWith_F (by exact FnK.at (by assumption) (by k_asm)) ?_; k_whole))
  k_with "And" => ((with_reducible show FnAt _ _ ∧ _); refine' ⟨by exact FnK.at (by assumption) (by k_asm), ?_⟩; try dsimp only [List.nil_append, List.cons_append])
  trivial
/-- reduce's turn -/
inductive RLJ (fvs : List Value) (fs : List (Int × Int)) (fL : Addr) (Fo : Addr × Obj) (V : List (Addr × Obj)) (i : Nat) (m : Str → Option Value) (news : List (Addr × Obj)) : Prop
  | mk (ps30 ps37 : Array Value) (W : List (Addr × Obj)) (b : Nat) (v : Value) (w1 : m (Str.ofString "value") = some v) (w2 : m (Str.ofString "function") = some (.ref fL)) (w3 : news = (30, tabObj ps30) :: (37, tabObj ps37) :: (Fo :: W))
    (w4 : T30 ps30 W) (w5 : T37 ps37 W) (w6 : ∀ p ∈ V, p ∈ W) (w7 : ∀ p ∈ W, p.1 ≠ 30 ∧ p.1 ≠ 37) (w8 : ∀ p ∈ W, p.1 ≠ Fo.1) (w9 : b < i) (w10 : i ≤ fs.length) (w11 : fvs[b]? = some v) (w12 : ∀ k, k < i → preF fs b k)
/-- what reduce hands back -/
inductive RedRet (fvs : List Value) (fs : List (Int × Int)) (Fo : Addr × Obj) (V : List (Addr × Obj)) (r : Value) (news : List (Addr × Obj)) : Prop
  | mk (ps30 ps37 : Array Value) (W : List (Addr × Obj)) (b : Nat) (w3 : news = (30, tabObj ps30) :: (37, tabObj ps37) :: (Fo :: W)) (w6 : ∀ p ∈ V, p ∈ W) (w9 : b < fs.length) (w11 : fvs[b]? = some r) (w12 : ∀ k, k < fs.length → preF fs b k)
theorem preF_next {fs : List (Int × Int)} {b i : Nat} (hb : b < i) (h : ∀ k, k < i → preF fs b k) (hn : ¬ lessF (fs.getD i (0, 1)) (fs.getD b (0, 1))) : ∀ k, k < i + 1 → preF fs b k := fun k hk => by
  by_cases q : k = i
  · subst q
    unfold preF lessF likeF at *
    omega
  · exact h k (by omega)
theorem preF_new {fs : List (Int × Int)} {b i : Nat} (ok : ∀ k, k ≤ i → 0 < (fs.getD k (0, 1)).2) (hb : b < i) (h : ∀ k, k < i → preF fs b k) (hn : lessF (fs.getD i (0, 1)) (fs.getD b (0, 1))) : ∀ k, k < i + 1 → preF fs i k := fun k hk => by
  by_cases q : k = i
  · subst q; exact .inr ⟨rfl, Nat.le_refl _⟩
  · have hk' := h k (by omega)
    left
    have hle : (fs.getD b (0, 1)).1 * (fs.getD k (0, 1)).2 ≤ (fs.getD k (0, 1)).1 * (fs.getD b (0, 1)).2 := by
      unfold preF lessF likeF at hk'
      omega
    have p1 := ok k (by omega)
    have p2 := ok b (by omega)
    have p3 := ok i (by omega)
    unfold lessF at *
    generalize (fs.getD b (0, 1)).1 = xb at *
    generalize (fs.getD b (0, 1)).2 = yb at *
    generalize (fs.getD k (0, 1)).1 = xk at *
    generalize (fs.getD k (0, 1)).2 = yk at *
    generalize (fs.getD i (0, 1)).1 = xi at *
    generalize (fs.getD i (0, 1)).2 = yi at *
    have h1 : xi * yb * yk < xb * yi * yk := Int.mul_lt_mul_of_pos_right hn p1
    have h2 : xb * yk * yi ≤ xk * yb * yi := Int.mul_le_mul_of_nonneg_right hle (by omega)
    have h3 : (xi * yk) * yb < (xk * yi) * yb := by
      rw [show xi * yk * yb = xi * yb * yk from by ac_rfl, show xk * yi * yb = xk * yb * yi from by ac_rfl]
      rw [show xb * yi * yk = xb * yk * yi from by ac_rfl] at h1
      omega
    exact Int.lt_of_mul_lt_mul_right h3 (by omega)
theorem subCons {G : Frag} {g h : Heap} {L : Addr} {I F : Addr × Obj} {news : List (Addr × Obj)} (X : InW G g) (N : News g L h (I :: news)) (hF : F ∈ news) : Sub G (I :: F :: G) := fun b o e => by
  have n1 : (b == I.1) = false := by
    rw [beq_eq_false_iff_ne]; intro q
    have := (N I (.head _)).2.2
    rw [← q, X b o e] at this; cases this
  have n2 : (b == F.1) = false := by
    rw [beq_eq_false_iff_ne]; intro q
    have := (N F (.tail _ hF)).2.2
    rw [← q, X b o e] at this; cases this
  show List.lookup b (I :: F :: G) = some o
  rw [show (I :: F :: G) = (I.1, I.2) :: (F.1, F.2) :: G from rfl, List.lookup_cons, n1, List.lookup_cons, n2]
  exact e
theorem kiCons {G : Frag} {g h : Heap} {L : Addr} {m : Str → Option Value} {I F a b : Addr × Obj} {W : List (Addr × Obj)} (X : InW G g) (Fh : Fr g L h m) (N : News g L h (I :: a :: b :: F :: W)) (hI : ∀ p ∈ a :: b :: F :: W, p.1 ≠ I.1) (hF : ∀ p ∈ a :: b :: W, p.1 ≠ F.1) : KI (I :: F :: G) h (a :: b :: W) := fun x o e => by
  have e' : List.lookup x ((I.1, I.2) :: (F.1, F.2) :: G) = some o := e
  have sub : ∀ p ∈ a :: b :: W, p ∈ a :: b :: F :: W := fun p hp => by
    simp only [List.mem_cons] at hp ⊢
    rcases hp with h | h | h <;> simp [h]
  rw [List.lookup_cons] at e'
  cases q : x == I.1 with
  | true =>
    rw [q] at e'; cases e'
    obtain rfl := eq_of_beq q
    exact ⟨(N I (.head _)).1, fun p hp => hI p (sub p hp)⟩
  | false =>
    rw [q, List.lookup_cons] at e'
    cases q2 : x == F.1 with
    | true =>
      rw [q2] at e'; cases e'
      obtain rfl := eq_of_beq q2
      exact ⟨(N F (.tail _ (.tail _ (.tail _ (.head _))))).1, hF⟩
    | false =>
      rw [q2] at e'
      exact kiOf X Fh (fun p hp => N p (.tail _ (sub p hp))) x o e'
theorem reduceL (w : World) (G : Frag) (fL Fl : Addr) (fvs : List Value) (fs : List (Int × Int)) (c : Nat) (V : List (Addr × Obj)) (ps30 ps37 : Array Value)
    (hfn : ∃ oc od fd sl, G.lookup fL = some ⟨oc, od, .func fd, sl⟩) (HL : ∀ G', Sub G G' → LamOk w G' fL) (hlen : fvs.length = fs.length) (hv : ∀ i, i < fs.length → ∃ v, fvs[i]? = some v ∧ FracIn G v (fs.getD i (0, 1))) (hok : ∀ i, i < fs.length → OkF 64 (fs.getD i (0, 1))) (hne : 0 < fs.length)
    (h30 : T30 ps30 V) (h37 : T37 ps37 V) (hV : ∀ p ∈ V, p.1 ≠ 30 ∧ p.1 ≠ 37) (hF : ∀ p ∈ V, p.1 ≠ Fl) (hF2 : Fl ≠ 30 ∧ Fl ≠ 37) :
    CtG w G (call (.ref 72) [.ref fL, .ref Fl]) 400 ((30, tabObj ps30) :: (37, tabObj ps37) :: ((Fl, PySem.W.listOf fvs.toArray c) :: V)) (RedRet fvs fs (Fl, PySem.W.listOf fvs.toArray c) V) := by
  obtain ⟨v0, hv0, hf0⟩ := hv 0 hne
  unfold CtG; k_fill
  intro p loose mean mg mb dp un gd cn cs a ccd cl outer A₀ base h₀ L m s Q E B C1 C2 C3 F X KIh N T hk hd hu hret
  refine wpAny_call ?_
  k_dflt (refine' codeDefF ?k1 ?k2 ?k3 ?k4 ?k5 ?kA ?kF ?kK ?k6 ?k7 ?k8 ?k9 ?kB ?_ ?c2 ?c3 ?c4 ?c5; (case kA => exact rfl); (case kF => exact rfl); (case kK => assumption); (case k1 => k_asm); (case k2 => k_asm); (case k3 => k_asm); (case k4 => k_asm); (case k5 => k_asm); (case k6 => k_is); (case k7 => k_is); (case k8 => k_room); (case k9 => exact binds_K (by k_in) rfl (by k_is) rfl rfl rfl); (case kB => exact locs rfl); (case c2 => exact rfl); (case c3 => exact rfl); (case c4 => exact rfl); (case c5 => decide); intro g' L' h' FG' F' N' B' X' T' K1'; (try dsimp only); (try k_lift B'); (try k_fold))
  have XK := inOf KIh K1'
  have hFn : FnK fL g' := by
    obtain ⟨oc, od, fd, sl, e⟩ := hfn
    exact ⟨oc, od, fd, sl, XK _ _ e⟩
  w_strict k_steps
  unfold Stop
  (with_reducible rename News _ _ _ _ => N1)
  refine iterList (items := fvs.toArray) (by k_asm) N1 ⟨_, (N1 _ (.tail _ (.tail _ (.head _)))).1, rfl, _, rfl⟩ ?_
  intro I hI FI NI lI
  dsimp only
  w_strict k_steps
  unfold Stop
  (with_reducible rename News _ _ _ _ => N2)
  have hne' : ∀ p ∈ (30, tabObj ps30) :: (37, tabObj ps37) :: ((Fl, PySem.W.listOf fvs.toArray c) :: V), p.1 ≠ I := fun p hp => Nat.ne_of_lt (lI p hp)
  refine nextList (i := 0) (l := Fl) (items := fvs.toArray) (x := v0) (by k_asm) N2 hne' ⟨_, (N2 _ (.head _)).1, rfl, rfl⟩ ⟨_, (N2 _ (.tail _ (.tail _ (.tail _ (.head _))))).1, rfl, _, rfl⟩ (by simpa using hv0) ?_
  intro hN oI1 FN NN hitN
  obtain ⟨oX, eX, hcX, hdX⟩ := hitN
  rw [(NN _ (.head _)).1] at eX
  cases eX
  clear N2
  dsimp only
  w_strict k_steps
  unfold Stop
  refine forIt (h₀ := g') (L := L') (RLJ fvs fs fL (Fl, PySem.W.listOf fvs.toArray c) V) ?_
  w_strict k_steps
  unfold Stop
  (with_reducible rename News _ _ _ _ => N3)
  (with_reducible rename Fr _ _ _ _ => F3)
  refine ⟨I, Fl, fvs.toArray, c, 1, _, (30, tabObj ps30) :: (37, tabObj ps37) :: ((Fl, PySem.W.listOf fvs.toArray c) :: V), rfl, rfl, F3, fun p hp => N3 p (.tail _ hp), hne', (N3 _ (.head _)).2.1, (N3 _ (.head _)).2.2, hne' _ (.tail _ (.tail _ (.head _))), ⟨oI1, (N3 _ (.head _)).1, hcX, hdX⟩, by rw [List.size_toArray]; omega, ?J1, ?Jl, ?turn, ?fin⟩
  case J1 =>
    refine ⟨ps30, ps37, V, 0, v0, rfl, rfl, rfl, h30, h37, fun _ h => h, hV, hF, by omega, hne, hv0, fun k hk => ?_⟩
    obtain rfl : k = 0 := by omega
    exact .inr ⟨rfl, Nat.le_refl _⟩
  case Jl =>
    rintro i m₁ _ ⟨ps30', ps37', W1, b, v1, e1, e2, rfl, hT30, hT37, hG, hW1, hWF, hb, hi, hvb, hpre⟩
    exact .tail _ (.tail _ (.head _))
  case turn =>
    rintro i v m₁ _ h₁ tk₁ oI E' hi hvi F4 N4 off4 ⟨ps30', ps37', W1, b, v1, e1, e2, rfl, hT30, hT37, hG, hW1, hWF, hb, hi', hvb, hpre⟩
    have hil : i < fs.length := by rw [List.size_toArray] at hi; omega
    obtain ⟨vi, hvi', hfi⟩ := hv i hil
    obtain rfl : v = vi := by rw [List.getElem?_toArray] at hvi; rw [hvi] at hvi'; exact Option.some.inj hvi'
    obtain ⟨vb, hvb', hfb⟩ := hv b (by omega)
    obtain rfl : v1 = vb := by rw [hvb] at hvb'; exact Option.some.inj hvb'
    w_strict k_steps
    unfold Stop
    (with_reducible rename News _ _ _ _ => N5)
    (with_reducible rename Fr _ _ _ _ => F5)
    have hWF' : ∀ p ∈ (30, tabObj ps30') :: (37, tabObj ps37') :: W1, p.1 ≠ Fl := fun p hp => by
      rcases List.mem_cons.mp hp with rfl | hp
      · exact Ne.symm hF2.1
      · rcases List.mem_cons.mp hp with rfl | hp
        · exact Ne.symm hF2.2
        · exact hWF p hp
    have sub := subCons (F := (Fl, PySem.W.listOf fvs.toArray c)) XK N5 (.tail _ (.tail _ (.head _)))
    have ki := kiCons XK F5 N5 off4 hWF'
    have upF : ∀ {v : Value} {a : Int × Int}, FracIn G v a → FracIn ((I, oI) :: (Fl, PySem.W.listOf fvs.toArray c) :: G) v a := fun ⟨q, t1, t2, e, l⟩ => ⟨q, t1, t2, e, sub _ _ l⟩
    k_dflt (refine' HL _ sub v1 v (fs.getD b (0, 1)) (fs.getD i (0, 1)) W1 ps30' ps37' (upF hfb) (upF hfi) (hok b (by omega)) (hok i hil) hT30 hT37 hW1 _ _ _ _ _ _ _ _ _ _ _ _ _ _ _ _ _ _ _ _ _ _ ?rk1 ?rc1 ?rc2 ?rc3 ?rk2 ?rk3 ki ?rk4 ?rk5 ?rkK ?rkd ?rku ?_; (case rk1 => k_asm); (case rk2 => k_asm); (case rk3 => k_asm); (case rk5 => k_asm); (case rkK => first | exact rfl | assumption))
    (case rk4 => exact fun p hp => N5 p (by
      simp only [List.mem_cons] at hp ⊢
      rcases hp with h | h | h <;> simp [h]))
    (case rc1 => assumption)
    (case rc2 => assumption)
    (case rc3 => assumption)
    (case rkd => dsimp only [ktrTop]; omega)
    (case rku => dsimp only [ktrTop]; omega)
    rintro r9 news9 h9 tk9 F9 N9 K9 ⟨⟨qs30, qs37, W3, rfl, u30, u37, gr, hW3, hr⟩, hoff⟩
    have hIo : ∀ q ∈ (30, tabObj qs30) :: (37, tabObj qs37) :: ([] ++ W3), q.1 ≠ I := hoff I oI lkHead
    have hFo : ∀ q ∈ (30, tabObj qs30) :: (37, tabObj qs37) :: ([] ++ W3), q.1 ≠ Fl := hoff Fl (PySem.W.listOf fvs.toArray c) (by
      show List.lookup Fl ((I, oI) :: (Fl, _) :: G) = _
      rw [List.lookup_cons, beq_eq_false_iff_ne.mpr (off4 (Fl, _) (.tail _ (.tail _ (.head _)))), List.lookup_cons, beq_self_eq_true])
    rw [List.nil_append] at hIo hFo
    have N6 : News g' L' h9 ((30, tabObj qs30) :: (37, tabObj qs37) :: ((Fl, PySem.W.listOf fvs.toArray c) :: W3)) := fun q hq => by
      rcases List.mem_cons.mp hq with rfl | hq
      · exact N9 _ (.head _)
      rcases List.mem_cons.mp hq with rfl | hq
      · exact N9 _ (.tail _ (.head _))
      rcases List.mem_cons.mp hq with rfl | hq
      · have z := N5 (Fl, PySem.W.listOf fvs.toArray c) (.tail _ (.tail _ (.tail _ (.head _))))
        exact ⟨K9 _ _ z.1 hWF', z.2⟩
      · exact N9 _ (.tail _ (.tail _ hq))
    have NI := N5 (I, oI) (.head _)
    have NI' : News g' L' h9 ((I, oI) :: (30, tabObj qs30) :: (37, tabObj qs37) :: ((Fl, PySem.W.listOf fvs.toArray c) :: W3)) := fun q hq => by
      rcases List.mem_cons.mp hq with rfl | hq
      · exact ⟨K9 _ _ NI.1 fun p hp => off4 p (by
          simp only [List.mem_cons] at hp ⊢
          rcases hp with h | h | h <;> simp [h]), NI.2⟩
      · exact N6 q hq
    have hoffI : ∀ q ∈ (30, tabObj qs30) :: (37, tabObj qs37) :: ((Fl, PySem.W.listOf fvs.toArray c) :: W3), q.1 ≠ I := fun q hq => by
      simp only [List.mem_cons] at hq
      rcases hq with rfl | rfl | rfl | hq
      · exact hIo _ (.head _)
      · exact hIo _ (.tail _ (.head _))
      · exact off4 (Fl, _) (.tail _ (.tail _ (.head _)))
      · exact hIo _ (.tail _ (.tail _ hq))
    obtain ⟨qr, b', rfl, hb', hvb', hpre'⟩ : ∃ qr b', r9 = .ref qr ∧ b' < i + 1 ∧ fvs[b']? = some r9 ∧ ∀ k, k < i + 1 → preF fs b' k := by
      rcases hr with ⟨hl, rfl⟩ | ⟨hl, rfl⟩
      · obtain ⟨q, _, _, e, _⟩ := hfi
        exact ⟨q, i, e, by omega, hvi', preF_new (fun k hk => (hok k (by omega)).2.2.1) hb hpre hl⟩
      · obtain ⟨q, _, _, e, _⟩ := hfb
        exact ⟨q, b, e, by omega, hvb, preF_next hb hpre hl⟩
    clear N5 N6 N9 K9 ki sub upF hWF' NI hr hoff hIo hvi
    dsimp only
    w_strict k_steps
    (with_reducible rename News _ _ _ _ => N7)
    (with_reducible rename Fr _ _ _ _ => F7)
    exact ⟨.inl rfl, _, _, _, (30, tabObj qs30) :: (37, tabObj qs37) :: ((Fl, PySem.W.listOf fvs.toArray c) :: W3), rfl, F7, N7, hoffI, qs30, qs37, W3, b', _, rfl, e2, rfl, u30, u37, fun q hq => gr.1 q (hG q hq), hW3, fun q hq => hFo q (.tail _ (.tail _ hq)), hb', hil, hvb', hpre'⟩
  case fin =>
    rintro m₁ _ h₁ tk₁ F4 N4 ⟨ps30', ps37', W1, b, v1, e1, e2, rfl, hT30, hT37, hG, hW1, hWF, hb, hi', hvb, hpre⟩
    have hsz : fvs.toArray.size = fs.length := by rw [List.size_toArray, hlen]
    rw [hsz] at hb hpre
    w_strict k_steps
    exact hret _ _ _ _ (by k_asm) (by k_asm) (kept_ K1' (by k_asm)) ⟨ps30', ps37', W1, b, rfl, hG, hb, hvb, hpre⟩
end Mine
end SecRL
section SecLR
theorem Mine.offLR : True := by
  w_top off
  k_with_none
  trivial
open PySem PySem.W PyProof.Rows PySem.Spec PySem.Calls
set_option maxRecDepth 100000
set_option maxHeartbeats 2000000
namespace Mine
theorem eqTup {prog : Program} {w : World} {A : Around} {E : Value → Shared → Prop} {s : Shared} {Q : Value → Shared → Prop} {a : Addr} {x1 x2 : Value} (ha : s.heap.get? a = some (tupO #[x1, x2])) (hu : A.units < cLine) (h : Q (.bool true) s) :
    wpAny (model prog w) A (compareOp .Eq (.ref a) (.ref a)) Q E s := by
  have ht : s.heap.IsTuple a #[x1, x2] := ⟨_, ha, rfl, _, rfl⟩
  exact SeqAt.RcAt.tuples (e := fun _ => true) ht ht hu (fun j h1 h2 => SeqAt.EqAt.same _) prog w E Q h
theorem lamAst_of {P : Params} {oc : Value} {od : Option Addr} {nm ql : Str} {ps : Arguments} {s1 s2 s3 s4 : Stmt} {fn lb : Expr} {lp : Arguments} {ls : Scope} {lpos p1 p2 p3 : Pos} {rest es : List Expr} {kw : List Keyword} {ops : List CmpOp} {sc : Scope} {dV kV doc pm cdv ct : Value} {an : Option Addr} {osl : Array (Option Value)}
    (h : (hd2.heap_39 P).lookup 124 = some ⟨oc, od, .func (fnOf nm ql ps [s1, s2, s3, s4, .Return (some (.Compare (.Call fn (.Lambda lp lb ls lpos :: rest) kw p1) ops es p2)) p3] sc dV kV doc pm an cdv ct), osl⟩) : lamAst P = some (lp, lb, ls) := by unfold lamAst; rw [h]
theorem lrPerm {g h : Heap} {L : Addr} {la lc t D rg cf f cp cm t3 t7 : Addr × Obj} {V W : List (Addr × Obj)} (N : News g L h (la :: lc :: t :: f :: cm :: D :: cp :: rg :: cf :: t3 :: t7 :: (V ++ W))) : News g L h ((t3 :: t7 :: f :: V) ++ (la :: lc :: t :: cm :: D :: cp :: rg :: cf :: W)) :=
  mvMid [t3, t7, f] [la, lc, t, cm, D, cp, rg, cf] V (mvMid [t3, t7] [la, lc, t] [f] (mvMid [] [la, lc, t, f, cm, D, cp, rg, cf] [t3, t7] N))
theorem lrPerm2 {g h : Heap} {L : Addr} {la lc t D rg cf f cp cm t3 t7 : Addr × Obj} {V W : List (Addr × Obj)} (N : News g L h ((t3 :: t7 :: f :: V) ++ (la :: lc :: t :: cm :: D :: cp :: rg :: cf :: W))) : News g L h (cf :: f :: cm :: D :: t3 :: t7 :: t :: (V ++ W)) :=
  mvMid [cf, f] [t3, t7, t] [cm, D] (mvMid [cf] [t3, t7] [f] (mvMid [] [t3, t7, f, t, cm, D] [cf] (mvOut [t3, t7, f, t, cm, D] (mvOut [t3, t7, f, t, cm, D] (mvOut [t3, t7, f] (mvOut [t3, t7, f] (mvMid [t3, t7, f] V [la, lc, t, cm, D, cp, rg, cf] N)))))))
theorem lrDisj {la lc D rg cf f cp cm t3 t7 : Addr × Obj} {ot : Obj × Obj} {at_ : Addr} {V W : List (Addr × Obj)} (dj : Disj (t3 :: t7 :: V) (f :: cm :: D :: cp :: rg :: cf :: (at_, ot.1) :: W)) (l1 : ∀ q ∈ (at_, ot.1) :: f :: cm :: D :: cp :: rg :: cf :: t3 :: t7 :: (V ++ W), q.1 < lc.1) (l2 : lc.1 < la.1)
    (hf : ∀ p ∈ cm :: D :: cp :: rg :: cf :: (at_, ot.1) :: W, p.1 ≠ f.1) : ∀ p ∈ t3 :: t7 :: f :: V, ∀ q ∈ la :: lc :: (at_, ot.2) :: cm :: D :: cp :: rg :: cf :: W, q.1 ≠ p.1 := fun p hp q hq => by
  have hl : p.1 < lc.1 := l1 p (by
    simp only [List.mem_cons, List.mem_append] at hp ⊢
    rcases hp with h | h | h | h <;> simp [h])
  rcases List.mem_cons.mp hq with rfl | hq
  · exact Nat.ne_of_gt (Nat.lt_trans hl l2)
  rcases List.mem_cons.mp hq with rfl | hq
  · exact Nat.ne_of_gt hl
  obtain ⟨q', hq', e⟩ : ∃ q' ∈ cm :: D :: cp :: rg :: cf :: (at_, ot.1) :: W, q'.1 = q.1 := by
    rcases List.mem_cons.mp hq with rfl | hq
    · exact ⟨(at_, ot.1), .tail _ (.tail _ (.tail _ (.tail _ (.tail _ (.head _))))), rfl⟩
    · refine ⟨q, ?_, rfl⟩
      simp only [List.mem_cons] at hq ⊢
      rcases hq with h | h | h | h | h | h <;> simp [h]
  rw [← e]
  simp only [List.mem_cons] at hp
  rcases hp with rfl | rfl | rfl | hp
  · exact dj _ (.head _) q' (.tail _ hq')
  · exact dj _ (.tail _ (.head _)) q' (.tail _ hq')
  · exact hf q' hq'
  · exact dj p (.tail _ (.tail _ hp)) q' (.tail _ hq')
theorem first_one {fs : List (Int × Int)} {a b : Nat} (ha : a < fs.length) (hb : b < fs.length) (h1 : ∀ k, k < fs.length → preF fs a k) (h2 : ∀ k, k < fs.length → preF fs b k) : a = b := by
  have p := h1 b hb
  have q := h2 a ha
  unfold preF lessF likeF at *
  rcases p with p | ⟨p, p'⟩ <;> rcases q with q | ⟨q, q'⟩ <;> omega
end Mine
end SecLR
section SecLQ
theorem Mine.offLQ : True := by
  w_top off
  k_with_none
  trivial
open PySem PySem.W PyProof.Rows PySem.Spec PySem.Calls
set_option maxRecDepth 100000
set_option maxHeartbeats 16000000
namespace Mine
theorem rulesLQ : True := by
  k_with_none
  k_with "call ref" => refine stop ?_
  k_with "newList" => (k_here; k_dflt (refine' newListZ (by k_asm) (by k_asm) (by assumption) ?_; k_whole); intro lq9 hq9 Fq9 Nq9 l1q Zq9; (try k_lt l1q); (try k_sweep))
  k_with "newTuple" => refine stop ?_
  k_with "storeName" => (k_here; k_dflt (refine' storeZ (by k_asm) (by k_asm) (by assumption) ?_ (by rfl) (by rfl); k_whole; intro hq9 Fq9 Nq9 Zq9; (try k_sweep)))
  k_with "subscriptTail Name Slice ref ref" => (k_here; k_dflt (refine' sliceZ (by k_asm) (by k_asm) (by assumption) (by kmk_list) (by kmk_part) (by kmk_part) (by assumption) ?_ (by with_unfolding_all rfl) (by kmk_pure) (by assumption)); intro Dq9 hq9 Fq9 Nq9 l1q Zq9; (try k_lt l1q); (try k_sweep))
  k_with "binaryOp Add ref ref" => refine stop ?_
  k_with "eval ListComp" => ((with_reducible rename Array.size _ = _ => Zz); (with_reducible show wpAny _ _ (eval (PySem.Expr.ListComp _ [⟨PySem.Expr.Name _ _, _, [], _⟩] _ _) _) _ _ _); k_here; k_dflt (refine listCompZ (F₀ := by k_asm) (by rfl) (by decide) (by rfl) (by decide) (by rfl) ?_))
  k_with "eval ListComp" => ((with_reducible show wpAny _ _ (eval (PySem.Expr.ListComp (PySem.Expr.Call _ _ _ _) [⟨PySem.Expr.Name _ _, PySem.Expr.Name _ _, _, _⟩] _ _) _) _ _ _); refine stop ?_)
  k_with "eval ListComp" => ((with_reducible show wpAny _ _ (eval (PySem.Expr.ListComp (PySem.Expr.Name _ _) [⟨PySem.Expr.Name _ _, PySem.Expr.Name _ _, [_], _⟩] _ _) _) _ _ _); refine stop ?_)
  k_with "callWith ref" => (k_here; k_dflt (refine' callWith_K (by k_asm) (by k_is) ?_; k_whole))
  k_with "SrcZ" => refine stop ?_
  k_with "call type:range" => refine stop ?_
  k_with "call builtin:len" => refine stop ?_
  k_with "TupEnd" => refine stop ?_
  k_with "FinZ" => refine stop ?_
  k_with "RSrc" => refine stop ?_
  k_with "RSrcC" => refine stop ?_
  k_with "CEnd" => refine stop ?_
  k_with "compareOp Eq ref ref" => refine stop ?_
  k_with "subscriptTail Name Call ref int" => refine stop ?_
  k_with "eval Name" => (k_here; k_dflt (refine' nmL (by k_asm) (by rfl) (by rfl) (by first | exact rfl | assumption) ?_; k_whole))
  trivial
theorem ints_all2 {vs : List Value} {ns : List Int} {i : Nat} (h : IntsAre vs ns) (hi : i < ns.length) : ∃ t, vs[i]? = some (.int (ns.getD i 0) t) := by
  induction h generalizing i with
  | nil => simp at hi
  | cons a t r ih =>
    cases i with
    | zero => exact ⟨_, rfl⟩
    | succ i => simpa using ih (by simpa using hi)
noncomputable def fracF (x : Int) : Int × Int := (x.fmod 1000 - 300, (x.fdiv 1000).fmod 60 + 1)
noncomputable def lawF (xs : List Int) : List (Int × Int) := xs.map fracF ++ [(1, 3), (-1, 2), (1, 2), (2, 4)]
theorem lqStartN {g h : Heap} {L : Addr} {F q T4 T3 T2 T1 D dq cm cp cf t3 t7 t8 t9 : Addr × Obj} {W : List (Addr × Obj)} (N : News g L h (F :: q :: T4 :: T3 :: T2 :: T1 :: D :: (W ++ [dq, cm, cp, cf, t3, t7, t8, t9]))) : News g L h (cf :: F :: cp :: cm :: t3 :: t7 :: t8 :: t9 :: T4 :: T3 :: T2 :: T1 :: W) :=
  mvMid [cf, F] [cm] [cp] (mvMid [] [F, cm, cp] [cf] (mvMid [F] [T4, T3, T2, T1] [cm, cp, cf, t3, t7, t8, t9] (mvOut [F] (mvOut [F, q, T4, T3, T2, T1] (mvOut [F, q, T4, T3, T2, T1] (mvEnd [F, q, T4, T3, T2, T1, D] W [dq, cm, cp, cf, t3, t7, t8, t9] N))))))
theorem app4 {α : Type} (l : List α) (a b c d : α) : l ++ [a] ++ [b] ++ [c] ++ [d] = l ++ [a, b, c, d] := by rw [List.append_assoc, List.append_assoc, List.append_assoc]; rfl
theorem frac_all (xs : List Int) : ([] : List (Int × Int)) ++ (List.range' 0 xs.length).map (fun j => fracF (xs.getD j 0)) = xs.map fracF := by
  apply List.ext_getElem?
  intro i
  rw [List.nil_append, List.getElem?_map, List.getElem?_map]
  by_cases hi : i < xs.length
  · rw [List.getElem?_range' hi, List.getElem?_eq_getElem hi, Option.map_some, Option.map_some, Nat.zero_add, Nat.one_mul, List.getD_eq_getElem?_getD, List.getElem?_eq_getElem hi]; rfl
  · rw [List.getElem?_eq_none (by rw [List.length_range']; exact Nat.le_of_not_lt hi), List.getElem?_eq_none (Nat.le_of_not_lt hi)]; rfl
theorem mem4 {a b c d p : Addr × Obj} {W : List (Addr × Obj)} {P : Prop} (hp : p ∈ a :: b :: c :: d :: W) (h1 : p = a → P) (h2 : p = b → P) (h3 : p = c → P) (h4 : p = d → P) (h5 : p ∈ W → P) : P :=
  (List.mem_cons.mp hp).elim h1 fun hp => (List.mem_cons.mp hp).elim h2 fun hp => (List.mem_cons.mp hp).elim h3 fun hp => (List.mem_cons.mp hp).elim h4 h5
theorem lqStart {g h : Heap} {L : Addr} {F q T4 T3 T2 T1 D dq cm cp cf t3 t7 t8 t9 : Addr × Obj} {a1 b1 a2 b2 a3 b3 a4 b4 : Tok} {W0 : List (Addr × Obj)} {vs : List Value} {xs : List Int}
    (N : News g L h (F :: q :: T4 :: T3 :: T2 :: T1 :: D :: (W0 ++ [dq, cm, cp, cf, t3, t7, t8, t9]))) (e4 : T4.2 = pairObj 2 4 a4 b4) (e3 : T3.2 = pairObj 1 2 a3 b3) (e2 : T2.2 = pairObj (-1) 2 a2 b2) (e1 : T1.2 = pairObj 1 3 a1 b1)
    (hp : PairsIn W0 vs ([] ++ (List.range' 0 xs.length).map fun j => fracF (xs.getD j 0))) (hlt : ∀ p ∈ W0, ∀ q ∈ [dq, cm, cp, cf, t3, t7, t8, t9], q.1 < p.1)
    (l1 : ∀ p ∈ D :: (W0 ++ [dq, cm, cp, cf, t3, t7, t8, t9]), p.1 < T1.1) (l2 : T1.1 < T2.1) (l3 : T2.1 < T3.1) (l4 : T3.1 < T4.1) (lF : ∀ p ∈ q :: T4 :: T3 :: T2 :: T1 :: D :: (W0 ++ [dq, cm, cp, cf, t3, t7, t8, t9]), p.1 < F.1) :
    ∃ Wt, News g L h (cf :: F :: cp :: cm :: t3 :: t7 :: t8 :: t9 :: Wt) ∧ PairsIn Wt (vs ++ [.ref T1.1] ++ [.ref T2.1] ++ [.ref T3.1] ++ [.ref T4.1]) (lawF xs) ∧ (∀ p ∈ Wt, cm.1 < p.1) ∧ (∀ p ∈ Wt, p.1 < F.1) ∧ cm.1 < F.1 := by
  rw [frac_all] at hp
  obtain ⟨T4, _⟩ := T4
  obtain ⟨T3, _⟩ := T3
  obtain ⟨T2, _⟩ := T2
  obtain ⟨T1, _⟩ := T1
  dsimp only at e4 e3 e2 e1 l1 l2 l3 l4
  subst e4 e3 e2 e1
  have hm : cm.1 < T1 := l1 cm (.tail _ (List.mem_append_right _ (.tail _ (.head _))))
  refine ⟨_, lqStartN N, ?_, fun p hq => mem4 hq ?_ ?_ ?_ ?_ (fun hq => hlt p hq cm (.tail _ (.head _))), fun p hq => lF p ?_, lF cm (.tail _ (.tail _ (.tail _ (.tail _ (.tail _ (.tail _ (List.mem_append_right _ (.tail _ (.head _)))))))))⟩
  · have := (((hp.snoc (a := (1, 3)) (t := T1) (t1 := a1) (t2 := b1)).snoc (a := (-1, 2)) (t := T2) (t1 := a2) (t2 := b2)).snoc (a := (1, 2)) (t := T3) (t1 := a3) (t2 := b3)).snoc (a := (2, 4)) (t := T4) (t1 := a4) (t2 := b4)
    rw [app4 (xs.map fracF)] at this
    exact this
  · rintro rfl; exact Nat.lt_trans hm (Nat.lt_trans l2 (Nat.lt_trans l3 l4))
  · rintro rfl; exact Nat.lt_trans hm (Nat.lt_trans l2 l3)
  · rintro rfl; exact Nat.lt_trans hm l2
  · rintro rfl; exact hm
  · exact mem4 hq (fun e => e ▸ .tail _ (.head _)) (fun e => e ▸ .tail _ (.tail _ (.head _))) (fun e => e ▸ .tail _ (.tail _ (.tail _ (.head _)))) (fun e => e ▸ .tail _ (.tail _ (.tail _ (.tail _ (.head _))))) fun hq => .tail _ (.tail _ (.tail _ (.tail _ (.tail _ (.tail _ (List.mem_append_left _ hq))))))
theorem lqOff {b c d t3 t7 t8 t9 : Addr × Obj} {W : List (Addr × Obj)} {x : Addr} (h1 : x < b.1 ∧ x < c.1 ∧ x < d.1) (h2 : t3.1 < x ∧ t7.1 < x ∧ t8.1 < x ∧ t9.1 < x) (hW : ∀ p ∈ W, x < p.1) : ∀ p ∈ b :: c :: d :: t3 :: t7 :: t8 :: t9 :: W, p.1 ≠ x := fun p hp => by
  simp only [List.mem_cons] at hp
  rcases hp with rfl | rfl | rfl | rfl | rfl | rfl | rfl | hp
  · exact Nat.ne_of_gt h1.1
  · exact Nat.ne_of_gt h1.2.1
  · exact Nat.ne_of_gt h1.2.2
  · exact Nat.ne_of_lt h2.1
  · exact Nat.ne_of_lt h2.2.1
  · exact Nat.ne_of_lt h2.2.2.1
  · exact Nat.ne_of_lt h2.2.2.2
  · exact Nat.ne_of_gt (hW p hp)
theorem lqPerm2 {g h : Heap} {L : Addr} {rg cf f cp cm t3 t7 t8 t9 : Addr × Obj} {W : List (Addr × Obj)} (N : News g L h (rg :: cf :: f :: cp :: cm :: t3 :: t7 :: t8 :: t9 :: W)) : News g L h (cp :: rg :: cf :: f :: cm :: t3 :: t7 :: t8 :: t9 :: W) := mvMid [] [rg, cf, f] [cp] N
theorem lqOff2 {rg cf f cm t3 t7 t8 t9 : Addr × Obj} {W : List (Addr × Obj)} {x : Addr} (h0 : cf.1 < x) (h1 : x < rg.1 ∧ x < f.1 ∧ x < cm.1) (h2 : t3.1 < x ∧ t7.1 < x ∧ t8.1 < x ∧ t9.1 < x) (hW : ∀ p ∈ W, x < p.1) : ∀ p ∈ rg :: cf :: f :: cm :: t3 :: t7 :: t8 :: t9 :: W, p.1 ≠ x := fun p hp => by
  simp only [List.mem_cons] at hp
  rcases hp with rfl | rfl | rfl | rfl | rfl | rfl | rfl | rfl | hp
  · exact Nat.ne_of_gt h1.1
  · exact Nat.ne_of_lt h0
  · exact Nat.ne_of_gt h1.2.1
  · exact Nat.ne_of_gt h1.2.2
  · exact Nat.ne_of_lt h2.1
  · exact Nat.ne_of_lt h2.2.1
  · exact Nat.ne_of_lt h2.2.2.1
  · exact Nat.ne_of_lt h2.2.2.2
  · exact Nat.ne_of_gt (hW p hp)
/-- the outer comprehension's invariant -/
inductive ManyJ (fs : List (Int × Int)) (base : List (Addr × Obj)) (z0 : Nat) (i : Nat) (ys : List Value) (news : List (Addr × Obj)) (z : Nat) : Prop
  | mk (w1 : news = base) (w2 : IntsAre ys ((List.range i).map fun k => ((manyOf fs k : Nat) : Int))) (w3 : z = z0 + i * (fs.length + 5))
/-- the inner one's -/
inductive AheadJ (fs : List (Int × Int)) (k : Nat) (base : List (Addr × Obj)) (z0 : Nat) (i : Nat) (ys : List Value) (news : List (Addr × Obj)) (z : Nat) : Prop
  | mk (w1 : news = base) (w2 : ys.length = ((List.range i).filter fun j => aheadB (fs.getD j (0, 1)) (fs.getD k (0, 1)) j k).length) (w3 : z = z0 + i)
theorem fracF_ok (x : Int) : OkF 64 (fracF x) := by
  have h1 := Int.fmod_nonneg_of_pos x (show (0 : Int) < 1000 by decide)
  have h2 := Int.fmod_lt_of_pos x (show (0 : Int) < 1000 by decide)
  have h3 := Int.fmod_nonneg_of_pos (x.fdiv 1000) (show (0 : Int) < 60 by decide)
  have h4 := Int.fmod_lt_of_pos (x.fdiv 1000) (show (0 : Int) < 60 by decide)
  unfold fracF OkF
  dsimp only
  refine ⟨?_, ?_, ?_, ?_, ?_⟩ <;> omega
theorem lawF_ok (xs : List Int) : ∀ a ∈ lawF xs, OkF 64 a := fun a ha => by
  unfold lawF at ha
  rcases List.mem_append.mp ha with ha | ha
  · obtain ⟨x, _, rfl⟩ := List.mem_map.mp ha; exact fracF_ok x
  · simp only [List.mem_cons, List.not_mem_nil, or_false] at ha
    rcases ha with rfl | rfl | rfl | rfl <;> (unfold OkF; decide)
theorem lawF_at {xs : List Int} {i : Nat} (hi : i < (lawF xs).length) : OkF 64 ((lawF xs).getD i (0, 1)) := lawF_ok xs _ (by rw [List.getD_eq_getElem?_getD, List.getElem?_eq_getElem hi]; exact List.getElem_mem hi)
theorem nestEnv {sc1 sc2 : Scope} {cl1 cl2 : List (Str × Addr)} {C1 C2 : Addr} {env : Env} (names' : List (Str × NameKind)) (h : (relabel sc2 (compEnvC sc1 cl1 C1 env)).names = (relabel { sc2 with names := names' } env).names) :
    compEnvC sc2 cl2 C2 (compEnvC sc1 cl1 C1 env) = compEnvC { sc2 with names := names' } cl2 C2 env := by
  have : relabel sc2 (compEnvC sc1 cl1 C1 env) = relabel { sc2 with names := names' } env := by
    unfold relabel at h ⊢
    dsimp only at h ⊢
    rw [h]
  show Env.mk _ _ _ _ _ _ _ _ _ = Env.mk _ _ _ _ _ _ _ _ _
  rw [this]
  rfl
theorem filt_succ (p : Nat → Bool) (j : Nat) : ((List.range (j + 1)).filter p).length = ((List.range j).filter p).length + (if p j = true then 1 else 0) := by
  rw [List.range_succ, List.filter_append, List.length_append]
  cases h : p j <;> simp [h]
theorem many_ints {fs : List (Int × Int)} {i : Nat} {ys : List Value} {n : Nat} {t : Tok} (hn : n = manyOf fs i) (h : IntsAre ys ((List.range i).map fun k => ((manyOf fs k : Nat) : Int))) : IntsAre (ys ++ [.int (n : Int) t]) ((List.range (i + 1)).map fun k => ((manyOf fs k : Nat) : Int)) := by
  rw [List.range_succ, List.map_append, hn]
  exact ints_append h (.cons _ _ .nil)
theorem lqPerm3 {g h : Heap} {L : Addr} {D rg cf f cp cm t3 t7 t8 t9 : Addr × Obj} {W : List (Addr × Obj)} (N : News g L h (D :: cp :: rg :: cf :: f :: cm :: t3 :: t7 :: t8 :: t9 :: W)) : News g L h (cm :: D :: cp :: rg :: cf :: f :: t3 :: t7 :: t8 :: t9 :: W) := mvMid [] [D, cp, rg, cf, f] [cm] N
theorem lqOff3 {D rg cf f cp t3 t7 t8 t9 : Addr × Obj} {W : List (Addr × Obj)} {x : Addr} (hD : D.1 ≠ x) (h0 : cp.1 < x ∧ cf.1 < x) (h1 : x < rg.1 ∧ x < f.1) (h2 : t3.1 < x ∧ t7.1 < x ∧ t8.1 < x ∧ t9.1 < x) (hW : ∀ p ∈ W, x < p.1) : ∀ p ∈ D :: cp :: rg :: cf :: f :: t3 :: t7 :: t8 :: t9 :: W, p.1 ≠ x := fun p hp => by
  simp only [List.mem_cons] at hp
  rcases hp with rfl | rfl | rfl | rfl | rfl | rfl | rfl | rfl | rfl | hp
  · exact hD
  · exact Nat.ne_of_lt h0.1
  · exact Nat.ne_of_gt h1.1
  · exact Nat.ne_of_lt h0.2
  · exact Nat.ne_of_gt h1.2
  · exact Nat.ne_of_lt h2.1
  · exact Nat.ne_of_lt h2.2.1
  · exact Nat.ne_of_lt h2.2.2.1
  · exact Nat.ne_of_lt h2.2.2.2
  · exact Nat.ne_of_gt (hW p hp)
/-- the heap's size at the call of cmp_to_key, by the number of the script's fractions -/
noncomputable def lawSz (k : Nat) : Nat := 126 + 4 + 2 + 3 + k + 2 + 7 + 4 + (k + 4) * (k + 4 + 5) + 2 + 3
theorem PairsIn.mono {W W' : List (Addr × Obj)} {vs : List Value} {fs : List (Int × Int)} (h : PairsIn W vs fs) (hs : ∀ p ∈ W, p ∈ W') : PairsIn W' vs fs := ⟨h.1, fun i hi => by
  obtain ⟨p, t1, t2, e1, e2⟩ := h.2 i hi
  exact ⟨p, t1, t2, e1, hs _ e2⟩⟩
theorem lqPerm4 {g h : Heap} {L : Addr} {D rg cf f cp cm t3 t7 t8 t9 : Addr × Obj} {W : List (Addr × Obj)} (N : News g L h (cm :: D :: cp :: rg :: cf :: f :: t3 :: t7 :: t8 :: t9 :: W)) : News g L h (f :: t3 :: t7 :: t8 :: (cm :: D :: cp :: rg :: cf :: t9 :: W)) := mvMid [] [cm, D, cp, rg, cf] [f, t3, t7, t8] N
theorem lqBig {D rg cf f cp cm t9 : Addr × Obj} {W : List (Addr × Obj)} {t : Addr} (h9 : t9.1 ≠ t) (hD : D.1 ≠ t) (h1 : t < cf.1 ∧ t < cp.1 ∧ t < cm.1) (h2 : cm.1 < f.1) (h3 : f.1 < rg.1) (hW : ∀ p ∈ W, cm.1 < p.1) : ∀ p ∈ f :: cm :: D :: cp :: rg :: cf :: t9 :: W, p.1 ≠ t := fun p hp => by
  simp only [List.mem_cons] at hp
  rcases hp with rfl | rfl | rfl | rfl | rfl | rfl | rfl | hp
  · exact Nat.ne_of_gt (Nat.lt_trans h1.2.2 h2)
  · exact Nat.ne_of_gt h1.2.2
  · exact hD
  · exact Nat.ne_of_gt h1.2.1
  · exact Nat.ne_of_gt (Nat.lt_trans h1.2.2 (Nat.lt_trans h2 h3))
  · exact Nat.ne_of_gt h1.1
  · exact h9
  · exact Nat.ne_of_gt (Nat.lt_trans h1.2.2 (hW p hp))
theorem lqOffF {D rg cf cp cm t9 : Addr × Obj} {W : List (Addr × Obj)} {f : Addr} (h9 : t9.1 ≠ f) (hD : D.1 ≠ f) (h1 : cf.1 < f ∧ cp.1 < f ∧ cm.1 < f) (h3 : f < rg.1) (hW : ∀ p ∈ W, p.1 < f) : ∀ p ∈ cm :: D :: cp :: rg :: cf :: t9 :: W, p.1 ≠ f := fun p hp => by
  simp only [List.mem_cons] at hp
  rcases hp with rfl | rfl | rfl | rfl | rfl | rfl | hp
  · exact Nat.ne_of_lt h1.2.2
  · exact hD
  · exact Nat.ne_of_lt h1.2.1
  · exact Nat.ne_of_gt h3
  · exact Nat.ne_of_lt h1.1
  · exact h9
  · exact Nat.ne_of_lt (hW p hp)
theorem lqPerm5 {g h : Heap} {L : Addr} {Dl D rg cf f cp cm t3 t7 t9 : Addr × Obj} {V W : List (Addr × Obj)} (N : News g L h (Dl :: f :: t3 :: t7 :: (V ++ (cm :: D :: cp :: rg :: cf :: t9 :: W)))) : News g L h (Dl :: f :: cm :: D :: cp :: rg :: cf :: t3 :: t7 :: t9 :: (V ++ W)) := mvMid [Dl, f] [t3, t7] [cm, D, cp, rg, cf] (mvMid [Dl, f, t3, t7] V [cm, D, cp, rg, cf, t9] N)
theorem lqPerm6 {g h : Heap} {L : Addr} {D2 Dl D rg cf f cp cm t3 t7 t9 : Addr × Obj} {W : List (Addr × Obj)} (N : News g L h (D2 :: Dl :: f :: cm :: D :: cp :: rg :: cf :: t3 :: t7 :: t9 :: W)) : News g L h (t9 :: f :: cm :: D :: cp :: rg :: cf :: t3 :: t7 :: W) := mvMid [] [f, cm, D, cp, rg, cf, t3, t7] [t9] fun p hp => N p (.tail _ (.tail _ hp))
theorem lqTab {D rg cf f cp cm t3 t7 t9 : Addr × Obj} {V W : List (Addr × Obj)} (h3 : t3.1 ≠ t9.1) (h7 : t7.1 ≠ t9.1) (hD : D.1 ≠ t9.1) (h1 : t9.1 < cf.1 ∧ t9.1 < cp.1 ∧ t9.1 < cm.1) (h2 : cm.1 < f.1) (h4 : f.1 < rg.1) (hW : ∀ p ∈ W, cm.1 < p.1) (hV : ∀ p ∈ V, p.1 ≠ t9.1) : ∀ p ∈ f :: cm :: D :: cp :: rg :: cf :: t3 :: t7 :: (V ++ W), p.1 ≠ t9.1 := fun p hp => by
  simp only [List.mem_cons, List.mem_append] at hp
  rcases hp with rfl | rfl | rfl | rfl | rfl | rfl | rfl | rfl | hp | hp
  · exact Nat.ne_of_gt (Nat.lt_trans h1.2.2 h2)
  · exact Nat.ne_of_gt h1.2.2
  · exact hD
  · exact Nat.ne_of_gt h1.2.1
  · exact Nat.ne_of_gt (Nat.lt_trans h1.2.2 (Nat.lt_trans h2 h4))
  · exact Nat.ne_of_gt h1.1
  · exact h3
  · exact h7
  · exact hV p hp
  · exact Nat.ne_of_gt (Nat.lt_trans h1.2.2 (hW p hp))
theorem lawF_len {xs : List Int} : (lawF xs).length = xs.length + 4 := by unfold lawF; rw [List.length_append, List.length_map]; rfl
theorem lawF_lt {xs : List Int} (h : xs.length ≤ 2) : (lawF xs).length < 1000 := by rw [lawF_len]; omega
theorem lawF_pos {xs : List Int} : 0 < (lawF xs).length := by rw [lawF_len]; exact Nat.succ_pos _
theorem lawF_small {n : Nat} (h : n < 1000) : Builtin.Range.small 0 (n : Int) 1 = true := small_one (by omega) (by omega) (by omega) (by omega)
theorem lawF_size {n : Nat} : Builtin.Range.rangeSize 0 (n : Int) 1 = (n : Int) := by simp only [Builtin.Range.rangeSize]; split <;> omega
theorem lawF_line {n : Nat} (h : n < 1000) : n ≤ sizeLine := by rw [sizeLine_eq]; omega
theorem lt20 {a b : Nat} (h : a ≤ b) (hb : b < 1000) : a < 2 ^ 20 := by omega
theorem lt63 {a b : Nat} (h : a < b) (hb : b < 1000) : (a : Int) < 2 ^ 63 := by omega
theorem add_line {a b : Nat} (h : a = b) (hb : b ≤ 2) : a + 4 ≤ sizeLine := by rw [sizeLine_eq]; omega
theorem lawSz_of {k n h8 l z : Nat} (hz : z = h8 + 4 + l * (l + 5)) (hl : l = k + 4) (h7 : h8 = n + 4 + 2 + 3 + k + 2 + 1 + 1 + 1 + 1 + 1 + 1 + 1) (hn : n = 126) : lawSz k = z + 2 + 3 := by
  subst hz hl h7 hn
  unfold lawSz
  generalize (k + 4) * (k + 4 + 5) = c
  omega
theorem lawSz_big {k z : Nat} (h : lawSz k = z + 2 + 3) : 100 < z + 2 := by
  unfold lawSz at h
  generalize (k + 4) * (k + 4 + 5) = c at h
  omega
theorem up1 {a L : Addr} (h : a < L) : a < L + 1 := Nat.lt_succ_of_lt h
theorem law2T (w : World) (S : Addr) (sc ps : List Value) (xs : List Int)
   (hp : (slicePick sc.toArray none (some 2) none).toList = ps) (hps : IntsAre ps xs) (hpl : xs.length ≤ 2) (hls : sc.toArray.size ≤ sizeLine)
   (p : Program) (loose : List Str) (mean : ExcName → Option Value) (mg mb : Str → Option Value) (s : Shared) (gg : Heap) (R : Result → Shared → Prop) (n : Nat) (Z : s.heap.objs.size = n) (hn : n = 126) (hgens : s.gens = #[]) (ZP : Heap → Prop) (HT : TopZ ZP gg)
   (hg : ∀ b o, gg.get? b = some o → s.heap.get? b = some o) (hgs : gg.objs.size = s.heap.objs.size) (hScr : gg.IsList S sc.toArray)
   (HZ : ∀ (gd : Option (List Code)) (cn : Str) (cs : Scope) (a : Addr) (ccd : Value) (cl : List (Str × Addr)) (outer : List Env) (L : Addr) (s : Shared) (Q E : Value → Shared → Prop), ZP s.heap → s.gens = #[] → s.heap.objs.size = lawSz xs.length → ZHn w (lawSz xs.length) s Q →
     wpAny (model PySem.Challenge.rw_nq0126_02.row.prog w) (ktrTop 303 10 gd cn cs L a ccd cl outer) (call (.ref 63) [.ref 107]) Q E s)
   : CodeHd gg 34 30 → CodeHd gg 41 37 → CodeHd gg 62 58 → CodeHd gg 123 121 → (hd2.heap_39 w.params).In gg → (∀ q ∈ [(30, tabObj #[]), (37, tabObj #[]), (58, tabObj #[]), (121, tabObj #[])], s.heap.get? q.1 = some q.2 ∧ gg.get? q.1 = none) → Top p loose mean mg mb gg →
    (∀ L' h' tk' m' rs30 rs37 rs58 rs121, Fr gg L' h' m' → h'.get? 30 = some (tabObj rs30) → h'.get? 37 = some (tabObj rs37) → h'.get? 58 = some (tabObj rs58) → h'.get? 121 = some (tabObj rs121) → R (.ok (.ret (.bool true))) { s with heap := h', toks := tk' }) →
    codeAny (model PySem.Challenge.rw_nq0126_02.row.prog w) callerA (.call (.ref 124) ⟨[.ref S], []⟩) R s := by
  have hpsl : ps.length = xs.length := hps.length
  k_fill
  intro C1 C2 C3 C4 X NN T hret
  k_dflt (refine' codeDefTop (c := 4) hg hgs ?k3 NN ?k5 ?kZ ?k6 ?k7 ?k8 ?k9 ?kB ?kD ?kc ?_ ?c2 ?c3 ?c4; (case kZ => assumption); (case k3 => exact X); (case k5 => exact T); (case k6 => k_is); (case k7 => k_is); (case k8 => decide); (case k9 => exact BindsTo.of_eq rfl); (case kB => exact rfl); (case kD => decide +kernel); (case kc => decide +kernel); (case c2 => exact rfl); (case c3 => exact rfl); (case c4 => exact rfl); intro L' h' tk' cells' F' N' Y' l1 Z'; (try k_lt l1); k_cells Y'; (try simp only [List.cons_append, List.nil_append] at N'); (try dsimp only))
  have B' : Below callerA gg [] gg := below_caller gg
  (try k_fold)
  w_strict k_steps
  unfold Stop
  refine SrcZ.ledger (by rfl) (by k_asm) (by k_asm) (by assumption) (by k_mem) (by rw [List.size_toArray, sizeLine_eq]; omega) ?_
  intro g1
  refine comp_tupZ (fun j => fracF (xs.getD j 0)) (fun W => .inr ⟨_, List.mem_append_right _ (.head _), rfl, _, rfl⟩) ?step _ _ 0 [] [] [] ⟨rfl, fun i hi => nomatch hi⟩ (fun p hp => nomatch hp) ?fin
  case step =>
    rintro j ys v I2 oI2 C2' oC D2 m₂ h₂ tk₂ news₁ n₁ E2 hv hC hx2 F2 N2 Z2
    have hjl : j < xs.length := by
      have := (Array.getElem?_eq_some_iff.mp hv).1
      rw [List.size_toArray] at this; omega
    obtain ⟨tv, hvi⟩ := ints_all2 hps hjl
    obtain rfl : v = .int (xs.getD j 0) tv := by rw [List.getElem?_toArray] at hv; rw [hvi] at hv; exact (Option.some.inj hv).symm
    w_strict k_steps
    unfold Stop
    refine newTupZ (by k_asm) (by k_asm) (by assumption) ?_ (Nat.le_of_ble_eq_true rfl)
    intro Dt ht Ft Nt lt Zt
    w_strict k_steps
    unfold Stop
    exact ⟨Dt, _, _, ht, _, rfl, rfl, Ft, Nt, lt, Zt⟩
  case fin =>
    rw [List.size_toArray, hpsl]
    intro vs W0 hpw hlt
    unfold FinZ
    intro D1 h1 tk1 F1 N1 o1 Z1
    dsimp only
    w_strict k_steps
    unfold Stop
    refine newTupZ (by k_asm) (by k_asm) (by assumption) ?_ (Nat.le_of_ble_eq_true rfl)
    intro T1 ht1 Ft1 Nt1 lt1 Zt1
    w_strict k_steps
    unfold Stop
    refine newTupZ (by k_asm) (by k_asm) (by assumption) ?_ (Nat.le_of_ble_eq_true rfl)
    intro T2 ht2 Ft2 Nt2 lt2 Zt2
    w_strict k_steps
    unfold Stop
    refine newTupZ (by k_asm) (by k_asm) (by assumption) ?_ (Nat.le_of_ble_eq_true rfl)
    intro T3 ht3 Ft3 Nt3 lt3 Zt3
    w_strict k_steps
    unfold Stop
    refine newTupZ (by k_asm) (by k_asm) (by assumption) ?_ (Nat.le_of_ble_eq_true rfl)
    intro T4 ht4 Ft4 Nt4 lt4 Zt4
    w_strict k_steps
    have hvl : vs.length = xs.length := by have := hpw.1; simpa using this
    refine addZ (vs := []) (ws := []) (its := vs.toArray) (its2 := #[.ref T1, .ref T2, .ref T3, .ref T4]) (zs := vs ++ [.ref T1] ++ [.ref T2] ++ [.ref T3] ++ [.ref T4]) (by k_asm) (by k_asm) (by assumption) (by kmk_list) (by kmk_list) (by simp) ?_ (add_line hvl hpl)
    intro Fl hF FF NF lF ZF
    dsimp only
    obtain ⟨Wt, N8, hPW, hWt, hFm, lFc⟩ := lqStart NF rfl rfl rfl rfl hpw hlt lt1 (lt2 _ (.head _)) (lt3 _ (.head _)) (lt4 _ (.head _)) lF
    clear lt1 lt2 lt3 lt4 NF hlt hpw lF
    replace hFm : ∀ p ∈ Wt, p.1 < Fl := hFm
    replace hWt : ∀ p ∈ Wt, L' + 1 + 1 + 1 < p.1 := hWt
    replace lFc : L' + 1 + 1 + 1 < Fl := lFc
    generalize vs ++ [.ref T1] ++ [.ref T2] ++ [.ref T3] ++ [.ref T4] = fvs at N8 hPW ⊢
    have hfl : fvs.length = (lawF xs).length := hPW.1
    have hl6 : (lawF xs).length < 1000 := lawF_lt hpl
    have cc : L' + 1 < L' + 1 + 1 ∧ L' + 1 + 1 < L' + 1 + 1 + 1 ∧ L' + 1 < L' + 1 + 1 + 1 := ⟨Nat.lt_succ_self _, Nat.lt_succ_self _, Nat.lt_succ_of_lt (Nat.lt_succ_self _)⟩
    refine storeCZ (by k_asm) N8 (by assumption) rfl (.head (lqOff ⟨Nat.lt_trans cc.2.2 lFc, cc.1, cc.2.2⟩ ⟨Nat.lt_succ_of_lt l1.1, Nat.lt_succ_of_lt l1.2.1, Nat.lt_succ_of_lt l1.2.2.1, Nat.lt_succ_of_lt l1.2.2.2⟩ fun p hp => Nat.lt_trans cc.2.2 (hWt p hp))) (by assumption) ?_
    intro h9 of9 F9 N9 d9 Z9
    clear N8
    w_strict k_steps
    unfold Stop
    (with_reducible rename News _ _ _ _ => Nl)
    refine lenList Nl (.tail _ (.head _)) hfl (lt20 (Nat.le_refl _) hl6) ?_
    intro tl tkl
    w_strict k_steps
    unfold Stop
    refine rangeZ (by k_asm) (by k_asm) (by assumption) ?_
    intro rg hr tkr ur vr Fr9 Nr lr Zr
    w_strict k_steps
    have lrg : L' + 1 + 1 < rg := lr _ (.tail _ (.tail _ (.head _)))
    have lrg3 : L' + 1 + 1 + 1 < rg := lr _ (.tail _ (.tail _ (.tail _ (.head _))))
    have lrgF : Fl < rg := lr _ (.tail _ (.head _))
    have lrgW : ∀ p ∈ Wt, p.1 < rg := fun p hp => lr p (.tail _ (.tail _ (.tail _ (.tail _ (.tail _ (.tail _ (.tail _ (.tail _ hp))))))))
    refine storeCZ (by k_asm) (lqPerm2 Nr) (by assumption) rfl (.head (lqOff2 cc.1 ⟨lrg, Nat.lt_trans cc.2.1 lFc, cc.2.1⟩ ⟨Nat.lt_succ_of_lt (Nat.lt_succ_of_lt l1.1), Nat.lt_succ_of_lt (Nat.lt_succ_of_lt l1.2.1), Nat.lt_succ_of_lt (Nat.lt_succ_of_lt l1.2.2.1), Nat.lt_succ_of_lt (Nat.lt_succ_of_lt l1.2.2.2)⟩ fun p hp => Nat.lt_trans cc.2.1 (hWt p hp))) (by assumption) ?_
    intro h8 op9 F8 N8 d8 Z8
    clear Nr
    w_strict k_steps
    unfold Stop
    refine compRC F8 (by rfl) (fun _ => rfl) (fun _ => rfl) rfl (by decide) (fun _ _ => rfl) ?_
    w_strict k_steps
    unfold Stop
    (with_reducible rename News _ _ _ _ => N7)
    (with_reducible rename Array.size _ = _ => Z7)
    have hsm : Builtin.Range.small 0 ((lawF xs).length : Int) 1 = true := lawF_small hl6
    have hrs : Builtin.Range.rangeSize 0 ((lawF xs).length : Int) 1 = ((lawF xs).length : Int) := lawF_size
    have hsl : (lawF xs).length ≤ sizeLine := lawF_line hl6
    refine ⟨rg, _, _, _, (lawF xs).length, _, ManyJ (lawF xs) _ (h8.objs.size + 4), rfl, rfl, by k_asm, N7, (N7 (rg, _) (.tail _ (.head _))).1, hsm, hrs, hsl, ⟨rfl, .nil, by simp⟩, ?turn, ?fin9⟩
    case turn =>
      rintro i ys _ I C D c h tk oC oc t9 E' hi dist F1 N1 off1 offc hC hoc ⟨rfl, hys, hz⟩
      refine wpAny_tests_nil ?_
      simp only [if_true]
      w_strict k_steps
      unfold Stop
      have e1 : ∀ env : Env, True := fun _ => trivial
      refine compR (cl := [(Str.ofString "k", c), (Str.ofString "fractions", L' + 1)]) (by k_asm) ?a1 ?a2 ?a3 ?a4 ?a5 ?a6 ?a7
      case a1 => rfl
      case a2 => exact fun _ => rfl
      case a3 => exact fun _ => rfl
      case a4 => exact rfl
      case a5 => decide
      case a6 => rfl
      w_strict k_steps
      unfold Stop
      refine ⟨rg, ur, tl, vr, (lawF xs).length, _, AheadJ (lawF xs) i _ (h.objs.size + 3), rfl, rfl, by k_asm, N1, ?b1, hsm, hrs, hsl, ⟨rfl, rfl, rfl⟩, ?turn2, ?fin2⟩
      case b1 => exact (N1 (rg, _) (.tail _ (.tail _ (.tail _ (.tail _ (.tail _ (.head _))))))).1
      case turn2 =>
        rintro j ys2 _ I2 C2' D2 h2 tk2 oC2 m2 t2 E2 hj dist2 F2 N2 off2 hC2 hm2 ⟨rfl, hlen, hz2⟩
        refine wpAny_tests_one ?_
        rw [nestEnv [(Str.ofString ".0", .local), (Str.ofString "j", .local), (Str.ofString "_law_ahead", .globalImplicit), (Str.ofString "fractions", .free), (Str.ofString "k", .cell)] (by rfl)]
        dsimp only
        w_strict k_steps
        unfold Stop
        obtain ⟨pj, tj1, tj2, hvj, hmj⟩ := hPW.2 j hj
        obtain ⟨pk, tk1', tk2', hvk, hmk⟩ := hPW.2 i hi
        k_dflt (refine' ahead1 w Fl fvs 0 j i _ _ pj pk _ _ _ _ tj1 tj2 tk1' tk2' _ ?y1 ?y2 hvj hvk ?y3 ?y4 ?y5 ?y6 ?y7 _ _ _ _ _ _ _ _ _ _ _ _ _ _ _ _ _ _ _ _ _ _ _ ?kZ ?k1 ?c1 ?c2 ?c3 ?k2 ?k3 N2 ?k5 ?kK ?kd ?ku ?_; (case k1 => k_asm); (case k2 => k_asm); (case k3 => k_asm); (case k5 => k_asm); (case kK => first | exact rfl | assumption))
        (case y1 => omega)
        (case y2 => omega)
        (case y3 => exact lawF_at hj)
        (case y4 => exact lawF_at hi)
        (case y5 => k_mem)
        (case y6 => exact List.Mem.tail _ (.tail _ (.tail _ (.tail _ (.tail _ (.tail _ (.tail _ (.tail _ (.tail _ (.tail _ (.tail _ (.tail _ (.tail _ (.tail _ (.tail _ (.tail _ hmj))))))))))))))))
        (case y7 => exact List.Mem.tail _ (.tail _ (.tail _ (.tail _ (.tail _ (.tail _ (.tail _ (.tail _ (.tail _ (.tail _ (.tail _ (.tail _ (.tail _ (.tail _ (.tail _ (.tail _ hmk))))))))))))))))
        (case kZ => exact hz2)
        (case c1 => assumption)
        (case c2 => assumption)
        (case c3 => assumption)
        (case kd => decide)
        (case ku => decide)
        intro r3 h3 tk3 F3 N3 Z3 hr3
        subst hr3
        dsimp only
        w_strict k_steps
        · unfold Stop
          have hab : aheadB ((lawF xs).getD j (0, 1)) ((lawF xs).getD i (0, 1)) j i = true := by assumption
          exact ⟨h3, _, _, oC2, rfl, F3, N3, off2, ⟨_, hC2⟩, ⟨rfl, by rw [filt_succ, if_pos hab, List.length_append, hlen]; rfl, Z3⟩⟩
        · unfold Stop
          have hab' : aheadB ((lawF xs).getD j (0, 1)) ((lawF xs).getD i (0, 1)) j i = false := by assumption
          have hab : ¬ aheadB ((lawF xs).getD j (0, 1)) ((lawF xs).getD i (0, 1)) j i = true := by rw [hab']; decide
          exact ⟨h3, _, _, oC2, rfl, F3, N3, off2, ⟨_, hC2⟩, ⟨rfl, by rw [filt_succ, if_neg hab, hlen]; rfl, Z3⟩⟩
      case fin2 =>
        rintro D2 ys2 _ h2 tk2 z2 ⟨rfl, hlen, hz3⟩ F2 N2 off2 hz2
        have hlm : ys2.length = manyOf (lawF xs) i := hlen
        have hml : manyOf (lawF xs) i ≤ (lawF xs).length := by unfold manyOf; exact Nat.le_trans (List.length_filter_le _ _) (by rw [List.length_range]; exact Nat.le_refl _)
        dsimp only
        w_strict k_steps
        unfold Stop
        refine lenList N2 (.head _) rfl (lt20 (hlm ▸ hml) hl6) ?_
        intro tl2 tkl2
        w_strict k_steps
        unfold Stop
        refine ⟨h2, _, _, oC, rfl, F2, fun p hp => N2 p (.tail _ hp), off1, hC, ⟨oc, _, _, rfl, hoc, offc, ⟨rfl, many_ints hlm hys, ?_⟩⟩⟩
        rw [Nat.succ_mul]
        omega
    case fin9 =>
      rintro D9 ys9 _ h9' tk9' z9 ⟨rfl, hys9, hz9⟩ F9' N9' off9' hzz
      dsimp only
      w_strict k_steps
      have o3 : (30 : Addr) < L' + 1 + 1 + 1 ∧ (37 : Addr) < L' + 1 + 1 + 1 ∧ (58 : Addr) < L' + 1 + 1 + 1 ∧ (121 : Addr) < L' + 1 + 1 + 1 := ⟨up1 (up1 (up1 l1.1)), up1 (up1 (up1 l1.2.1)), up1 (up1 (up1 l1.2.2.1)), up1 (up1 (up1 l1.2.2.2))⟩
      have hof3 := lqOff3 (x := L' + 1 + 1 + 1) (D := (D9, LCg.lst ys9)) (cp := (L' + 1 + 1, op9)) (cf := (L' + 1, of9)) (rg := (rg, rngO ((lawF xs).length : Int) ur tl vr)) (f := (Fl, listOf fvs.toArray 0)) (t3 := ((30 : Addr), tabObj #[])) (t7 := ((37 : Addr), tabObj #[])) (t8 := ((58 : Addr), tabObj #[])) (t9 := ((121 : Addr), tabObj #[])) (W := Wt) (Ne.symm (off9' _ (.tail _ (.tail _ (.tail _ (.tail _ (.head _))))))) ⟨cc.2.1, cc.2.2⟩ ⟨lrg3, lFc⟩ o3 hWt
      refine storeCZ (c := L' + 1 + 1 + 1) (by k_asm) (lqPerm3 N9') hzz rfl (.head hof3) (by first | (with_reducible assumption) | assumption) ?_
      intro h7 om9 F7 N7' d7 Z7'
      clear N9'
      w_strict k_steps
      unfold Stop
      have NP := lqPerm4 N7'
      have hW' : ∀ p ∈ Wt, p ∈ (L' + 1 + 1 + 1, om9) :: (D9, LCg.lst ys9) :: (L' + 1 + 1, op9) :: (rg, rngO ((lawF xs).length : Int) ur tl vr) :: (L' + 1, of9) :: ((121 : Addr), tabObj #[]) :: Wt := fun p hp => .tail _ (.tail _ (.tail _ (.tail _ (.tail _ (.tail _ hp)))))
      have o1 : ((30 : Addr) < L' + 1 ∧ (37 : Addr) < L' + 1 ∧ (58 : Addr) < L' + 1) := ⟨up1 l1.1, up1 l1.2.1, up1 l1.2.2.1⟩
      have o2 : ((30 : Addr) < L' + 1 + 1 ∧ (37 : Addr) < L' + 1 + 1 ∧ (58 : Addr) < L' + 1 + 1) := ⟨up1 (up1 l1.1), up1 (up1 l1.2.1), up1 (up1 l1.2.2.1)⟩
      have hnn : lawSz xs.length = z9 + 2 + 3 := lawSz_of hz9 lawF_len Z7 hn
      have hoD := fun q hq => Ne.symm (off9' q hq)
      have hOF := lqOffF (t9 := ((121 : Addr), tabObj #[])) (cm := (L' + 1 + 1 + 1, om9)) (D := (D9, LCg.lst ys9)) (cp := (L' + 1 + 1, op9)) (rg := (rg, rngO ((lawF xs).length : Int) ur tl vr)) (cf := (L' + 1, of9)) (W := Wt) (f := Fl) (Nat.ne_of_lt (Nat.lt_trans o3.2.2.2 lFc)) (hoD _ (.tail _ (.tail _ (.tail _ (.head _))))) ⟨Nat.lt_trans cc.2.2 lFc, Nat.lt_trans cc.2.1 lFc, lFc⟩ lrgF hFm
      k_dflt (refine' lawLaid w Fl fvs (lawF xs) 0 _ (hPW.mono hW') (lawF_ok xs) hl6 _ _ _ _ _ _ _ _ _ _ _ _ _ _ _ _ _ _ _ _ _ _ _ (lawSz xs.length) Z7' hnn ?x1 ?x2 ZP ?x3 ?x4 ?x5 ?x121 (by exact HZ) ?xk1 ?xc1 ?xc2 ?xc3 ?xk2 ?xk3 NP ?xk5 ?xkK ?xkd ?xku ?_; (case xk1 => k_asm); (case xk2 => k_asm); (case xk3 => k_asm); (case xk5 => k_asm); (case xkK => first | exact rfl | assumption))
      (case x1 => exact lawSz_big hnn)
      (case x2 => exact hgens)
      (case x3 => exact HT)
      (case x4 =>
        intro q hq
        exact ⟨lqBig (cm := (L' + 1 + 1 + 1, om9)) (by decide) (hoD _ (.tail _ (.tail _ (.tail _ (.tail _ (.tail _ (.head _))))))) ⟨o1.1, o2.1, o3.1⟩ lFc lrgF (fun p hp => hWt p hp) q hq, lqBig (cm := (L' + 1 + 1 + 1, om9)) (by decide) (hoD _ (.tail _ (.tail _ (.tail _ (.tail _ (.tail _ (.tail _ (.head _)))))))) ⟨o1.2.1, o2.2.1, o3.2.1⟩ lFc lrgF (fun p hp => hWt p hp) q hq, lqBig (cm := (L' + 1 + 1 + 1, om9)) (by decide) (hoD _ (.tail _ (.tail _ (.tail _ (.tail _ (.tail _ (.tail _ (.tail _ (.head _))))))))) ⟨o1.2.2, o2.2.2, o3.2.2.1⟩ lFc lrgF (fun p hp => hWt p hp) q hq⟩)
      (case x5 => exact hOF)
      (case x121 => exact .tail _ (.tail _ (.tail _ (.tail _ (.tail _ (.head _))))))
      (case xc1 => assumption)
      (case xc2 => assumption)
      (case xc3 => assumption)
      (case xkd => first | (dsimp only [ktrTop]; omega) | decide)
      (case xku => first | (dsimp only [ktrTop]; omega) | decide)
      rintro _ _ h6 tk6 F6 N6 ⟨Dl, rs, pl, cl9, V, ps30, ps37, rfl, rfl, hrs9, hpl9, hpw9, t30, t37, oV, dj, ps58, h58m⟩
      replace N6 := lqPerm5 N6
      dsimp only
      w_strict k_steps
      unfold Stop
      refine compR (by k_asm) (by rfl) (fun _ => rfl) (fun _ => rfl) rfl (by decide) (by rfl) ?_
      w_strict k_steps
      unfold Stop
      (with_reducible rename News _ _ _ _ => N5)
      refine ⟨rg, ur, tl, vr, (lawF xs).length, _, fun i ys news _ => news = _ ∧ IntsAre ys ((List.range i).map fun p => (((List.range (lawF xs).length).map (manyOf (lawF xs))).idxOf p : Int)), rfl, rfl, by k_asm, N5, ?g1, hsm, hrs, hsl, ⟨rfl, .nil⟩, ?turn3, ?fin3⟩
      case g1 => exact (N5 (rg, _) (.tail _ (.tail _ (.tail _ (.tail _ (.tail _ (.head _))))))).1
      case turn3 =>
        rintro j ys2 _ I2 C2' D2 h2 tk2 oC2 m2 t2 E2 hj dist2 F2 N2 off2 hC2 hm2 ⟨rfl, hys2⟩
        refine wpAny_tests_nil ?_
        simp only [if_true]
        w_strict k_steps
        have hmm : ((j : Nat) : Int) ∈ ((List.range (lawF xs).length).map fun k => ((manyOf (lawF xs) k : Nat) : Int)) := by
          obtain ⟨q, hq, e⟩ := List.mem_map.mp (many_mem hpl9 hpw9 hj)
          exact List.mem_map.mpr ⟨q, hq, congrArg _ e⟩
        have hix : ((List.range (lawF xs).length).map fun k => ((manyOf (lawF xs) k : Nat) : Int)).idxOf ((j : Nat) : Int) = ((List.range (lawF xs).length).map (manyOf (lawF xs))).idxOf j := by
          rw [← idx_cast, List.map_map]; rfl
        refine kf_index (its := ys9.toArray) N2 (.tail _ (.tail _ (.tail _ (.tail _ (.tail _ (.tail _ (.head _))))))) (kf_ints_of hys9) (kf_at_of hys9 hmm) (congrArg _ hix) (by show ys9.length ≤ sizeLine; rw [hys9.length, List.length_map, List.length_range]; exact hsl) ?_
        w_strict k_steps
        unfold Stop
        refine ⟨h2, _, _, oC2, rfl, F2, N2, off2, ⟨_, hC2⟩, ⟨rfl, ?_⟩⟩
        rw [List.range_succ, List.map_append]
        exact ints_append hys2 (.cons _ _ .nil)
      case fin3 =>
        rintro D2 ys2 _ h2 tk2 z2 ⟨rfl, hys2⟩ F2 N2 off2 hz2
        dsimp only
        w_strict k_steps
        rotate_left
        · exact absurd (laid_map hpl9 hpw9) (by assumption)
        have o121 := lqTab (f := (Fl, listOf fvs.toArray 0)) (D := (D9, LCg.lst ys9)) (rg := (rg, rngO ((lawF xs).length : Int) ur tl vr)) (cf := (L' + 1, of9)) (cp := (L' + 1 + 1, op9)) (cm := (L' + 1 + 1 + 1, om9)) (t3 := ((30 : Addr), tabObj ps30)) (t7 := ((37 : Addr), tabObj ps37)) (t9 := ((121 : Addr), tabObj #[])) (V := V) (W := Wt) (show (30 : Nat) ≠ 121 by decide) (show (37 : Nat) ≠ 121 by decide) (hoD _ (.tail _ (.tail _ (.tail _ (.tail _ (.tail _ (.tail _ (.tail _ (.tail _ (.head _))))))))))
          ⟨up1 l1.2.2.2, up1 (up1 l1.2.2.2), o3.2.2.2⟩ lFc lrgF (fun p hp => hWt p hp) (fun p hp => Ne.symm (dj p (.tail _ (.tail _ hp)) (121, tabObj #[]) (.tail _ (.tail _ (.tail _ (.tail _ (.tail _ (.tail _ (.head _)))))))))
        have NL := lqPerm6 N2
        refine kla_eval (by exact rfl) ?_
        refine kla_nest F2 NL T C4 rfl (.head o121) (by kn_triples) (by kn_among) (by rfl) ?_
        intro fL cL ocL vsL tL ctL hL tkL FL NL' dL1 dL2 lL1 lL2
        clear N2 NL
        dsimp only
        w_strict k_steps
        unfold Stop
        replace NL' := lrPerm NL'
        have hdj := fun oL oT : Obj => lrDisj (la := (fL, oL)) (f := (Fl, listOf fvs.toArray 0)) (cm := (L' + 1 + 1 + 1, om9)) (D := (D9, LCg.lst ys9)) (cp := (L' + 1 + 1, op9)) (rg := (rg, rngO ((lawF xs).length : Int) ur tl vr)) (cf := (L' + 1, of9)) (at_ := 121) (ot := (tabObj #[], oT)) (W := Wt) (V := V) (lc := (cL, ocL)) dj lL1 lL2 hOF
        have hWin := fun q hq => (NL' q (List.mem_append_right _ hq)).1
        have lkL := lkOf (.head _) hWin X FL
        have lkC := lkOf (.tail _ (.head _)) hWin X FL
        k_dflt (refine' reduceL w _ fL Fl fvs (lawF xs) 0 V ps30 ps37 ⟨_, _, _, _, lkL⟩ (fun G' sub => lamOk w G' (lamAst_of (by k_is)) (sub _ _ lkL) (sub _ _ lkC) dL1 dL2) hfl ?rv (fun i hi => lawF_at hi) ?rp t30 t37 oV ?rF ?rF2 _ _ _ _ _ _ _ _ _ _ _ _ _ _ _ _ _ _ _ _ _ _ ?rk1 ?rc1 ?rc2 ?rc3 ?rk2 ?rk3 (kiW FL NL' X (hdj _ _)) (fun q hq => NL' q (List.mem_append_left _ hq)) ?rk5 ?rkK ?rkd ?rku ?_; (case rk1 => k_asm); (case rk2 => k_asm); (case rk3 => k_asm); (case rk5 => k_asm); (case rkK => first | exact rfl | assumption))
        (case rv =>
          intro i hi
          obtain ⟨q, u1, u2, e1, e2⟩ := hPW.2 i hi
          exact ⟨_, e1, q, u1, u2, rfl, lkOf (.tail _ (.tail _ (.tail _ (.tail _ (.tail _ (.tail _ (.tail _ (.tail _ e2)))))))) hWin X FL⟩)
        (case rp => exact lawF_pos)
        (case rF => exact fun q hq => Ne.symm (dj q (.tail _ (.tail _ hq)) _ (.head _)))
        (case rF2 => exact ⟨dj (30, _) (.head _) _ (.head _), dj (37, _) (.tail _ (.head _)) _ (.head _)⟩)
        (case rc1 => assumption)
        (case rc2 => assumption)
        (case rc3 => assumption)
        (case rkd => first | (dsimp only [ktrTop]; omega) | decide)
        (case rku => first | (dsimp only [ktrTop]; omega) | decide)
        rintro r9 news9 h3 tk3 F3 N3 K3 ⟨qs30, qs37, W3, b9, rfl, hV3, hb9, hvb9, hpre9⟩
        have NR := lrPerm2 (news_back NL' N3 K3 (hdj _ _))
        clear NL' N3 K3
        obtain ⟨qb, ub1, ub2, eb1, eb2⟩ := hPW.2 b9 hb9
        obtain rfl : r9 = .ref qb := by rw [hvb9] at eb1; exact Option.some.inj eb1
        dsimp only
        w_strict k_steps
        have hlp : 0 < (lawF xs).length := lawF_pos
        have hmm0 : (0 : Int) ∈ ((List.range (lawF xs).length).map fun k => ((manyOf (lawF xs) k : Nat) : Int)) := by
          obtain ⟨q, hq, e⟩ := List.mem_map.mp (many_mem hpl9 hpw9 hlp)
          exact List.mem_map.mpr ⟨q, hq, by rw [e]; rfl⟩
        obtain ⟨hfi, hfp⟩ := first_is hpl9 hpw9 hlp
        have hix0 : ((((List.range (lawF xs).length).map fun k => ((manyOf (lawF xs) k : Nat) : Int)).idxOf (0 : Int) : Nat) : Int) = (b9 : Int) := by
          rw [first_one hb9 hfi hpre9 hfp, show (0 : Int) = ((0 : Nat) : Int) from rfl, ← idx_cast, List.map_map]; rfl
        refine kf_index (its := ys9.toArray) (i := (b9 : Int)) NR (.tail _ (.tail _ (.tail _ (.head _)))) (kf_ints_of hys9) (kf_at_of hys9 hmm0) hix0 (by show ys9.length ≤ sizeLine; rw [hys9.length, List.length_map, List.length_range]; exact hsl) ?_
        w_strict k_steps
        unfold Stop
        refine item_listL (l := fvs) (a := Fl) ⟨_, (NR _ (.tail _ (.head _))).1, rfl, _, rfl⟩ (Int.natCast_nonneg _) (lt63 hb9 hl6) hvb9 ?_
        w_strict k_steps
        unfold Stop
        refine eqTup (NR _ (.tail _ (.tail _ (.tail _ (.tail _ (.tail _ (.tail _ (.tail _ (List.mem_append_right _ eb2))))))))).1 (Nat.le_of_ble_eq_true rfl) ?_
        exact hret _ _ _ _ _ _ _ _ F3 (NR _ (.tail _ (.tail _ (.tail _ (.tail _ (.head _)))))).1 (NR _ (.tail _ (.tail _ (.tail _ (.tail _ (.tail _ (.head _))))))).1 (NR _ (.tail _ (.tail _ (.tail _ (.tail _ (.tail _ (.tail _ (.tail _ (List.mem_append_left _ (hV3 _ h58m)))))))))).1 (NR _ (.tail _ (.tail _ (.tail _ (.tail _ (.tail _ (.tail _ (.head _)))))))).1
end Mine
end SecLQ
theorem Mine.offMB : True := by
  w_top off
  k_with_none
  trivial
open PySem PySem.W PySem.W.X PySem.W.ZRun PyProof.Rows PySem.Spec PySem.Calls
set_option maxRecDepth 100000
set_option maxHeartbeats 0
namespace Mine
noncomputable def gO (K : Frag) (f : Addr) : Obj := match K.lookup f with | some o => o | none => ⟨.none, none, .plain, #[]⟩
noncomputable def gV (K : Frag) (f : Addr) (p : FuncData → Value) : Value := match (gO K f).data with | .func fd => p fd | _ => .none
noncomputable def gS (K : Frag) (f : Addr) (p : FuncData → Str) : Str := match (gO K f).data with | .func fd => p fd | _ => Str.ofString ""
noncomputable def aAt (P : Params) (i : Nat) : Arguments := match fnAt P i with | some (a, _, _) => a | none => default
noncomputable def bAt (P : Params) (i : Nat) : List Stmt := match fnAt P i with | some (_, b, _) => b | none => []
noncomputable def sAt (P : Params) (i : Nat) : Scope := match fnAt P i with | some (_, _, s) => s | none => default
theorem fnI_of {P : Params} {K : Frag} {f : Addr} {i : Nat} (h1 : fnAt P i = some (aAt P i, bAt P i, sAt P i))
    (h2 : K.lookup f = some ⟨(gO K f).cls, (gO K f).dict, .func (fnX (gS K f (·.name)) (gS K f (·.qualname)) (aAt P i) (bAt P i) (sAt P i) [] .none .none (gV K f (·.doc)) (gV K f (·.pyModule)) none (gV K f (·.code)) (gV K f (·.closureTuple))), (gO K f).slots⟩)
    (h3 : codeIn K (gV K f (·.code)) (gS K f (·.qualname)) = true) : ∃ a b sc nm q doc pm cdv ct oc od osl, FnI0 P K f i a b sc nm q doc pm cdv ct oc od osl := ⟨_, _, _, _, _, _, _, _, _, _, _, _, ⟨h1, h2, h3⟩⟩
theorem fnX_of {P : Params} {K : Frag} {f : Addr} {i : Nat} {cel : Addr} (h1 : fnAt P i = some (aAt P i, bAt P i, sAt P i))
    (h2 : K.lookup f = some ⟨(gO K f).cls, (gO K f).dict, .func (fnX (gS K f (·.name)) (gS K f (·.qualname)) (aAt P i) (bAt P i) (sAt P i) [(Str.ofString "mycmp", cel)] .none .none (gV K f (·.doc)) (gV K f (·.pyModule)) none (gV K f (·.code)) (gV K f (·.closureTuple))), (gO K f).slots⟩)
    (h3 : codeIn K (gV K f (·.code)) (gS K f (·.qualname)) = true) : ∃ a b sc nm q doc pm cdv ct oc od osl, FnIs P K f i cel a b sc nm q doc pm cdv ct oc od osl := ⟨_, _, _, _, _, _, _, _, _, _, _, _, ⟨h1, h2, h3⟩⟩
noncomputable def fragZ (n : Nat) (T : BT) : Frag := [1, 15, 16, 23, 24, 39, 40, 59, 60, 61].filterMap fun i => (T.get i).map fun o => (n + i, o)
theorem fragZ_mem {V : XV} {h : Heap} {T : BT} {m : Nat} {ch : Ch} (D : Rep V h T m ch) {n : Nat} (e : V.n₁ = n) : ∀ p ∈ fragZ n T, h.get? p.1 = some p.2 ∧ n ≤ p.1 := fun p hp => by
  obtain ⟨i, _, hi⟩ := List.mem_filterMap.mp hp
  cases q : T.get i with
  | none => rw [q] at hi; cases hi
  | some x => rw [q] at hi; cases hi; exact ⟨e ▸ (D.own i _ q).2, Nat.le_add_right _ _⟩
theorem zhookN {w : World} {n : Nat} {s : Shared} {Q : Value → Shared → Prop} (H : ZHn w n s Q) {v : Value} {S' : Shared} {V : XV} {T : BT} {m : Nat} {ch : Ch} {vs : Array Value} (D : Rep V S'.heap T m ch) (e1 : V.h₀ = s.heap) (e2 : V.n₁ = n) (ev : v = .ref (n + 60))
    (ec : ch = [(58, vs)]) (eg : S'.gens = s.gens) (ed : S'.drawn = s.drawn) (eo : S'.os = s.os) (kc : KC w.params (fragZ n T ++ hd2.heap_39 w.params) (n + 60) (n + 61) (n + 16) (n + 24) (n + 40) (n + 1) 107) : Q v S' := by
  subst ev
  have hl : ∀ b, chLook ch b = if 58 = b then some vs else none := fun b => by rw [ec]; exact (chPut_look [] 58 vs b)
  exact H S' (fragZ n T) kc (fragZ_mem D e2) (fun b o e ne => D.keep b o (e1 ▸ e) (by rw [hl, if_neg (Ne.symm ne)])) ⟨vs, (D.ch 58 vs (by rw [hl, if_pos rfl])).1⟩ eg ed eo
local macro_rules | `(tactic| exfalso) => `(tactic| exact zhookN (by assumption) (by assumption) (by rfl) (by rfl) (by rfl) (by rfl) (by first | rfl | exact (‹Shared.gens _ = #[]›).symm) (by rfl) (by rfl)
  { made := by kernel_rfl, keep := by kernel_rfl, init := by kernel_rfl, initF := by kernel_rfl, lt := by kernel_rfl, ltF := by kernel_rfl, eq := by kernel_rfl, eqF := by kernel_rfl, pg := by kernel_rfl, ic := by kernel_rfl, fo := by kernel_rfl, sg := by kernel_rfl, tk := by kernel_rfl, sl := by kernel_rfl, sa := by kernel_rfl, po := by kernel_rfl, ta := by kernel_rfl, ty := by kernel_rfl, cell := by kernel_rfl,
    fnI := fnI_of (by kernel_rfl) (by kernel_rfl) (by kernel_rfl), fnL := fnX_of (by kernel_rfl) (by kernel_rfl) (by kernel_rfl), fnE := fnX_of (by kernel_rfl) (by kernel_rfl) (by kernel_rfl) })
local macro_rules | `(tactic| omega) => `(tactic| done)
theorem cmpa (w : World) (gd : Option (List Code)) (cn : Str) (cs : Scope) (a : Addr) (ccd : Value) (cl : List (Str × Addr)) (outer : List Env) (L : Addr) (s : Shared) (Q E : Value → Shared → Prop)
   (ZH : KT.Holds s.heap 1 0 (hdz2.ktop_287 w.params)) (hg : s.gens = #[]) (hs : s.heap.objs.size = 189) (hret : ZHn w 189 s Q) :
    wpAny (model PySem.Challenge.rw_nq0126_02.row.prog w) (ktrTop 303 10 gd cn cs L a ccd cl outer) (call (.ref 63) [.ref 107]) Q E s := by
  z_run
theorem cmpb (w : World) (gd : Option (List Code)) (cn : Str) (cs : Scope) (a : Addr) (ccd : Value) (cl : List (Str × Addr)) (outer : List Env) (L : Addr) (s : Shared) (Q E : Value → Shared → Prop)
   (ZH : KT.Holds s.heap 1 0 (hdz2.ktop_287 w.params)) (hg : s.gens = #[]) (hs : s.heap.objs.size = 204) (hret : ZHn w 204 s Q) :
    wpAny (model PySem.Challenge.rw_nq0126_02.row.prog w) (ktrTop 303 10 gd cn cs L a ccd cl outer) (call (.ref 63) [.ref 107]) Q E s := by
  z_run
theorem cmpc (w : World) (gd : Option (List Code)) (cn : Str) (cs : Scope) (a : Addr) (ccd : Value) (cl : List (Str × Addr)) (outer : List Env) (L : Addr) (s : Shared) (Q E : Value → Shared → Prop)
   (ZH : KT.Holds s.heap 1 0 (hdz2.ktop_287 w.params)) (hg : s.gens = #[]) (hs : s.heap.objs.size = 221) (hret : ZHn w 221 s Q) :
    wpAny (model PySem.Challenge.rw_nq0126_02.row.prog w) (ktrTop 303 10 gd cn cs L a ccd cl outer) (call (.ref 63) [.ref 107]) Q E s := by
  z_run
end Mine
namespace Mine
theorem cmpAll (w : World) (k : Nat) (hk : k ≤ 2) (gd : Option (List Code)) (cn : Str) (cs : Scope) (a : Addr) (ccd : Value) (cl : List (Str × Addr)) (outer : List Env) (L : Addr) (s : Shared) (Q E : Value → Shared → Prop)
   (ZH : KT.Holds s.heap 1 0 (hdz2.ktop_287 w.params)) (hg : s.gens = #[]) (hs : s.heap.objs.size = lawSz k) (hret : ZHn w (lawSz k) s Q) :
    wpAny (model PySem.Challenge.rw_nq0126_02.row.prog w) (ktrTop 303 10 gd cn cs L a ccd cl outer) (call (.ref 63) [.ref 107]) Q E s :=
  match k, hk, hs, hret with
  | 0, _, hs, hret => cmpa w gd cn cs a ccd cl outer L s Q E ZH hg hs hret
  | 1, _, hs, hret => cmpb w gd cn cs a ccd cl outer L s Q E ZH hg hs hret
  | 2, _, hs, hret => cmpc w gd cn cs a ccd cl outer L s Q E ZH hg hs hret
theorem fragSub {P : Params} {h : Heap} (X : (hdz2.heap_163 P).In h) : (hd2.heap_39 P).In h := fun b o e => by
  have hr : ((hd2.heap_39 P).map fun p => (hdz2.heap_163 P).lookup p.1) = ((hd2.heap_39 P).map fun p => some p.2) := by kernel_rfl
  have hm := mem_of_lookupK e
  have key : ∀ (l : Frag), (l.map fun p => (hdz2.heap_163 P).lookup p.1) = (l.map fun p => some p.2) → ∀ q ∈ l, (hdz2.heap_163 P).lookup q.1 = some q.2 := fun l => by
    induction l with
    | nil => intro _ q hq; cases hq
    | cons a r ih =>
      intro hl q hq
      simp only [List.map_cons, List.cons.injEq] at hl
      rcases List.mem_cons.mp hq with rfl | hq
      · exact hl.1
      · exact ih hl.2 q hq
  exact X _ _ (key _ hr _ hm)
end Mine
section
open PySem.W.X PySem.W.ZRun Mine
set_option maxRecDepth 100000 in
theorem PySem.Challenge.cw_nq0126_02_holds : PySem.Challenge.rw_nq0126_02.Holds := by
  refine hdz2 ?_
  k_fill
  intro w s₀ s₁ mg mb G y fa o pm cd doc dV kV ho hd hcd hD hmg hg args vals as L hpre hlay hrd hwl hlo
  z_open y L KX ZH ZN ZT
  refine Ground.open G ?_
  intro T B D TE TW
  wrow_args hpre hlay hrd hwl hlo
  obtain ⟨hat, hsz⟩ := script_at L
  have htk := script_toks L ZT
  rw [ZN] at hat hsz
  subst hat
  x_fa T KX hmg
  (with_reducible rename IntsAre _ _ => hI)
  (with_reducible rename Heap.IsList _ _ _ => hL)
  have X1 := fragSub KX
  have hT : TabsAt [(34, 30), (41, 37), (62, 58), (123, 121)] s₁.heap := fun q hq => by
    simp only [List.mem_cons, List.not_mem_nil, or_false] at hq
    rcases hq with rfl | rfl | rfl | rfl
    · exact tab_of (x := Str.ofString "_int2digits") T KX (by rfl) (by kernel_rfl)
    · exact tab_of (x := Str.ofString "_digits2int") T KX (by rfl) (by kernel_rfl)
    · exact tab_of (x := Str.ofString "cmp_to_key") T KX (by rfl) (by kernel_rfl)
    · exact tab_of (x := Str.ofString "law") T KX (by rfl) (by kernel_rfl)
  have T' := ghost_top hT T
  have X' := ghost_K hT X1 (by kernel_rfl)
  obtain ⟨C1, C2, C3, C4, _⟩ := ghost_code hT
  have hlen := hI.length
  refine enter_call ?_
  refine kn_post (tabs := [(34, 30), (41, 37), (62, 58), (123, 121)]) hT (fun _ _ => rfl) ?_
  refine law2T w 125 _ _ _ rfl (kmk_upto hI (by decide : (0 : Int) ≤ 2)) (List.length_take_le _ _) (by rw [List.size_toArray, sizeLine_eq]; omega) _ _ _ _ _ s₁ (ghostOf s₁.heap [(34, 30), (41, 37), (62, 58), (123, 121)]) _ 126 hsz rfl L.gens (fun h => KT.Holds h 1 0 (hdz2.ktop_287 w.params)) ?HT (fun b o e => of_hideAll _ e) (hideAll_size _ _) (ghost_list hT hL)
    (cmpAll w _ (List.length_take_le _ _)) C1 C2 C3 C4 X' ?NN T' ?fin
  case HT =>
    intro h' k h30 h37 h58 h121
    refine KT.Holds.keeps (fun b o e => ?_) ZH
    by_cases hb : b ∈ [(34, 30), (41, 37), (62, 58), (123, 121)].map (fun q : Addr × Addr => q.2)
    · obtain ⟨q, hq, rfl⟩ := List.mem_map.mp hb
      have := (hT q hq).2
      rw [e] at this
      cases this
      simp only [List.mem_cons, List.not_mem_nil, or_false] at hq
      rcases hq with rfl | rfl | rfl | rfl
      · exact h30
      · exact h37
      · exact h58
      · exact h121
    · exact k b o (ghost_ne e hb)
  case NN =>
    intro q hq
    simp only [List.mem_cons, List.not_mem_nil, or_false] at hq
    rcases hq with rfl | rfl | rfl | rfl
    · exact ⟨(hT (34, 30) (.head _)).2, hideAll_none _ (.head _)⟩
    · exact ⟨(hT (41, 37) (.tail _ (.head _))).2, hideAll_none _ (.tail _ (.head _))⟩
    · exact ⟨(hT (62, 58) (.tail _ (.tail _ (.head _)))).2, hideAll_none _ (.tail _ (.tail _ (.head _)))⟩
    · exact ⟨(hT (123, 121) (.tail _ (.tail _ (.tail _ (.head _))))).2, hideAll_none _ (.tail _ (.tail _ (.tail _ (.head _))))⟩
  case fin =>
    intro L' h' tk' m' rs30 rs37 rs58 rs121 F h30 h37 h58 h121
    refine ⟨⟨.inl ⟨_, _, [], rfl, fun _ => rfl, ReadsW.bool true, ?_, fun _ => ⟨List.nodup_nil, fun _ hm => (nomatch hm)⟩⟩, F.keep, rfl, L.gens⟩, ⟨_, h30⟩, ⟨_, h37⟩, ⟨_, h58⟩, ⟨_, h121⟩, trivial⟩
    first | rfl | wrow_post
end
