import PyProof.Rows.All
import Wide.All
import OpenK.AllK
import Wide.FinOn
import Lean
import PySem.Challenge.RW_nq0126_01
open PySem PySem.W PyProof.Rows
set_option Elab.async false
set_option maxRecDepth 100000
set_option maxHeartbeats 0
section
local macro_rules | `(tactic| o_head $_) => `(tactic| refine (show True → _ from fun _ => ?_) ?$(Lean.mkIdent `hw):ident)
local macro_rules | `(tactic| w_witness2) => `(tactic| trivial)
open_top hd1 for PySem.Challenge.rw_nq0126_01
end
section
local macro_rules | `(tactic| k_head) => `(tactic| z_head)
open_top hdz1 for PySem.Challenge.rw_nq0126_01
end
section SecBs
theorem Mine.offBs : True := by
  w_top off
  k_with_none
  trivial
open PySem PySem.W PyProof.Rows PySem.Spec PySem.Calls
set_option maxRecDepth 100000
namespace Mine
def Stop (P : Prop) : Prop := P
theorem stop {P : Prop} (h : Stop P) : P := h
theorem flat_rep (v : Value) : ∀ k : Nat, (List.foldl (fun x1 x2 => x1 ++ x2) (#[] : Array Value) (List.replicate k #[v])) = (List.replicate k v).toArray := by
  have key : ∀ k (acc : Array Value), List.foldl (fun x1 x2 => x1 ++ x2) acc (List.replicate k #[v]) = acc ++ (List.replicate k v).toArray := by
    intro k
    induction k with
    | zero => intro acc; simp
    | succ k ih => intro acc; rw [List.replicate_succ, List.foldl_cons, ih, List.replicate_succ]; apply Array.toList_inj.mp; simp [-List.toArray_replicate]
  intro k; rw [key]; simp
theorem ints_rep (t : Tok) : ∀ k : Nat, IntsAre (List.replicate k (.int 0 t)) (List.replicate k 0)
  | 0 => .nil
  | k + 1 => by rw [List.replicate_succ, List.replicate_succ]; exact .cons 0 t (ints_rep t k)
theorem mulZero {prog : Program} {w : World} {A : Around} {E : Value → Shared → Prop} {s : Shared} {h₀ : Heap} {L l : Addr} {m : Str → Option Value} {news : List (Addr × Obj)} {t : Tok} {n : Nat} {x : Int} {u : Tok} {Q : Value → Shared → Prop}
    (F : Fr h₀ L s.heap m) (N : News h₀ L s.heap news) (hm : (l, listOf #[.int 0 t] n) ∈ news) (h0 : 0 ≤ x) (h1 : x ≤ 1000)
    (k : ∀ l' vs h', IntsAre vs (List.replicate x.toNat 0) → Fr h₀ L h' m → News h₀ L h' ((l', listOf vs.toArray 0) :: news) → (∀ p ∈ news, p.1 < l') → Q (.ref l') { s with heap := h' }) :
    wpAny (model prog w) A (binaryOp .Mult (.ref l) (.int x u)) Q E s :=
  mul_list F N (N _ hm).1 (by omega) (by omega) (by show 1 * x.toNat ≤ 2 ^ 24; omega) fun h' F' N' => by
    refine k _ (List.replicate x.toNat (.int 0 t)) h' (ints_rep t _) F' ?_ fun p hp => Heap.lt_size (N p hp).1
    rw [show (List.foldl (fun x1 x2 => x1 ++ x2) (#[] : Array Value) (List.replicate (if (#[Value.int 0 t] : Array Value).isEmpty = true then 0 else x.toNat) #[.int 0 t])) = (List.replicate x.toNat (.int 0 t)).toArray from flat_rep _ _] at N'
    exact N'
theorem lenInts {prog : Program} {w : World} {A : Around} {E : Value → Shared → Prop} {s : Shared} {h₀ : Heap} {L l : Addr} {news : List (Addr × Obj)} {vs : List Value} {ns : List Int} {n : Nat} {Q : Value → Shared → Prop}
    (N : News h₀ L s.heap news) (hm : (l, listOf vs.toArray n) ∈ news) (hi : IntsAre vs ns) (hz : ns.length ≤ 1000000) (h : ∀ t tk, Q (.int ns.length t) { s with toks := tk }) :
    wpAny (model prog w) A (call (.builtin "len") [.ref l]) Q E s := by
  have e : (List.toArray vs).size = ns.length := by rw [List.size_toArray]; exact hi.length
  exact call_len_list (PySem.IsL.isList (n := n) (N _ hm).1) (by rw [e]; omega) (by rw [e]; exact h _ _)
section
variable {h₀ h : Heap} {L : Addr} {a b c d e f : Addr × Obj} {r : List (Addr × Obj)}
theorem news_pull1 (N : News h₀ L h (a :: b :: r)) : News h₀ L h (b :: a :: r) := fun p hp => N p (by simp only [List.mem_cons] at hp ⊢; grind)
theorem news_pull4 (N : News h₀ L h (a :: b :: c :: d :: e :: r)) : News h₀ L h (e :: a :: b :: c :: d :: r) := fun p hp => N p (by simp only [List.mem_cons] at hp ⊢; grind)
theorem news_pull2 (N : News h₀ L h (a :: b :: c :: r)) : News h₀ L h (c :: a :: b :: r) := fun p hp => N p (by simp only [List.mem_cons] at hp ⊢; grind)
end
theorem allLt_get {d : Nat} : ∀ {l : List (Addr × Obj)}, AllLt d l → ∀ p ∈ l, p.1 < d
  | [], _, _, h => nomatch h
  | _ :: _, ⟨h, _⟩, _, .head _ => h
  | _ :: _, ⟨_, r⟩, _, .tail _ m => allLt_get r _ m
theorem allLt_ne {d e : Nat} {l : List (Addr × Obj)} (h : AllLt d l) (hd : d ≤ e) : ∀ p ∈ l, p.1 ≠ e := fun p hp => Nat.ne_of_lt (Nat.lt_of_lt_of_le (allLt_get h p hp) hd)
theorem drop3 {h₀ h : Heap} {L : Addr} {a b c : Addr × Obj} {W news : List (Addr × Obj)} (N : News h₀ L h news) (h1 : a ∈ news) (h2 : b ∈ news) (h3 : c ∈ news) (hW : ∀ p ∈ W, p ∈ news) : News h₀ L h (a :: b :: c :: W) :=
  fun p hp => N p (by
    rcases List.mem_cons.mp hp with rfl | hp
    · exact h1
    · rcases List.mem_cons.mp hp with rfl | hp
      · exact h2
      · rcases List.mem_cons.mp hp with rfl | hp
        · exact h3
        · exact hW p hp)
theorem truthyInts {prog : Program} {w : World} {A : Around} {E : Value → Shared → Prop} {s : Shared} {h₀ : Heap} {L l : Addr} {news : List (Addr × Obj)} {vs : List Value} {ns : List Int} {n : Nat} {Q : Bool → Shared → Prop}
    (N : News h₀ L s.heap news) (hm : (l, listOf vs.toArray n) ∈ news) (hi : IntsAre vs ns) (hz : ns.length ≤ 1000000) (h1 : 0 < ns.length → ∀ tk, Q true { s with toks := tk }) (h2 : ns = [] → ∀ tk, Q false { s with toks := tk }) :
    wpAny (model prog w) A (truthy (.ref l)) Q E s := by
  have e : (List.toArray vs).size = ns.length := by rw [List.size_toArray]; exact hi.length
  refine wpAny_truthy_list (PySem.IsL.isList (n := n) (N _ hm).1) (by rw [e]; omega) ?_
  cases hi with
  | nil => exact h2 rfl _
  | cons a t r => exact h1 (by simp) _
theorem drop2 {h₀ h : Heap} {L : Addr} {b c : Addr × Obj} {W news : List (Addr × Obj)} (N : News h₀ L h news) (h2 : b ∈ news) (h3 : c ∈ news) (hW : ∀ p ∈ W, p ∈ news) : News h₀ L h (b :: c :: W) :=
  fun p hp => N p (by
    rcases List.mem_cons.mp hp with rfl | hp
    · exact h2
    · rcases List.mem_cons.mp hp with rfl | hp
      · exact h3
      · exact hW p hp)
theorem rev_ind {prog : Program} {w : World} {A : Around} {E : Value → Shared → Prop} {h₀ : Heap} {env : Env} {x : Str} {body : List Stmt} {Q : Flow → Shared → Prop} {s : Shared} {I : Addr} {lp : Addr × Obj}
    (Inv : List Value → (Str → Option Value) → List (Addr × Obj) → Prop)
    (step : ∀ v r m news (it : Obj) h tk, Inv (v :: r) m news → it.cls = .type "list_reverseiterator" → Fr h₀ env.locals h (fun y => if y = x then some v else m y) → News h₀ env.locals h ((I, it) :: news) →
      wpAny (model prog w) A (execs body env) (UnrPost h₀ env.locals { s with heap := h, toks := tk } I it (fun m' n' => lp ∈ n' ∧ Inv r m' n') Q) E { s with heap := h, toks := tk })
    (fin : ∀ m news h tk, Inv [] m news → Fr h₀ env.locals h m → News h₀ env.locals h news → Q .next { s with heap := h, toks := tk }) :
    ∀ (rest : List Value) m news, Inv rest m news → RevRest prog w A E h₀ env x body Q s I lp rest m news
  | [], m, news, h0 => RevRest.zero fun h tk F N => fin m news h tk h0 F N
  | v :: r, m, news, h0 => RevRest.succ fun it h tk hit F N => by
    refine wpAny_mono (step v r m news it h tk h0 hit F N) (fun fl s' hp => ?_) fun _ _ y => y
    unfold UnrPost at hp ⊢
    cases fl with
    | ret v => exact hp
    | brk => exact hp
    | next =>
      obtain ⟨h', tk', m', n', e, F', N', off, hl, hI⟩ := hp
      exact ⟨h', tk', m', n', e, F', N', off, hl, rev_ind Inv step fin r m' n' hI⟩
    | cont =>
      obtain ⟨h', tk', m', n', e, F', N', off, hl, hI⟩ := hp
      exact ⟨h', tk', m', n', e, F', N', off, hl, rev_ind Inv step fin r m' n' hI⟩
theorem rev_start {prog : Program} {w : World} {A : Around} {E : Value → Shared → Prop} {h₀ : Heap} {env : Env} {x : Str} {body : List Stmt} {Q : Flow → Shared → Prop} {s : Shared} {I : Addr} {lp : Addr × Obj} {rest : List Value} {m : Str → Option Value} {news : List (Addr × Obj)}
    (Inv : List Value → (Str → Option Value) → List (Addr × Obj) → Prop) (h0 : Inv rest m news)
    (step : ∀ v r m news (it : Obj) h tk, Inv (v :: r) m news → it.cls = .type "list_reverseiterator" → Fr h₀ env.locals h (fun y => if y = x then some v else m y) → News h₀ env.locals h ((I, it) :: news) →
      wpAny (model prog w) A (execs body env) (UnrPost h₀ env.locals { s with heap := h, toks := tk } I it (fun m' n' => lp ∈ n' ∧ Inv r m' n') Q) E { s with heap := h, toks := tk })
    (fin : ∀ m news h tk, Inv [] m news → Fr h₀ env.locals h m → News h₀ env.locals h news → Q .next { s with heap := h, toks := tk }) : Stop (RevRest prog w A E h₀ env x body Q s I lp rest m news) := rev_ind Inv step fin rest m news h0
theorem offI_of {I : Addr} {it : Obj} : ∀ {l : List (Addr × Obj)}, (∀ p ∈ l, p.1 ≠ I) → OffI I it l
  | [], _ => trivial
  | p :: _, h => ⟨Or.inl (h p (.head _)), offI_of fun q hq => h q (.tail _ hq)⟩
theorem ints_append : ∀ {vs ws : List Value} {ns ms : List Int}, IntsAre vs ns → IntsAre ws ms → IntsAre (vs ++ ws) (ns ++ ms)
  | _, _, _, _, .nil, h => h
  | _, _, _, _, .cons n t r, h => .cons n t (ints_append r h)
theorem ints_reverse : ∀ {vs : List Value} {ns : List Int}, IntsAre vs ns → IntsAre vs.reverse ns.reverse
  | _, _, .nil => .nil
  | _, _, .cons n t r => by
    rw [List.reverse_cons, List.reverse_cons]
    exact ints_append (ints_reverse r) (.cons n t .nil)
theorem revInts {prog : Program} {w : World} {A : Around} {E : Value → Shared → Prop} {s : Shared} {h₀ : Heap} {L D : Addr} {m : Str → Option Value} {news news' : List (Addr × Obj)} {vs : List Value} {n : Nat} {Q : Value → Shared → Prop}
    (F : Fr h₀ L s.heap m) (N : News h₀ L s.heap news) (hz : vs.length ≤ 1000) (U : Upd D (listOf vs.toArray n) (listOf vs.reverse.toArray n) news news') (h : ∀ h', Fr h₀ L h' m → News h₀ L h' news' → Q .none { s with heap := h' }) :
    wpAny (model prog w) A (call (.builtin "list.reverse") [.ref D]) Q E s :=
  kl_reverse F N (by simp) U (by show vs.toArray.toList.length ≤ 2 ^ 24; simp; omega) h
theorem drop5 {h₀ h : Heap} {L : Addr} {a b c d e : Addr × Obj} {W news : List (Addr × Obj)} (N : News h₀ L h news) (h1 : a ∈ news) (h2 : b ∈ news) (h3 : c ∈ news) (h4 : d ∈ news) (h5 : e ∈ news) (hW : ∀ p ∈ W, p ∈ news) : News h₀ L h (a :: b :: c :: d :: e :: W) :=
  fun p hp => N p (by
    simp only [List.mem_cons] at hp
    rcases hp with rfl | rfl | rfl | rfl | rfl | hp
    · exact h1
    · exact h2
    · exact h3
    · exact h4
    · exact h5
    · exact hW p hp)
end Mine
end SecBs
local macro_rules | `(tactic| walk_at $s:str) => `(tactic| k_extra $s)
local macro_rules | `(tactic| k_room) => `(tactic| ktr_room) | `(tactic| k_all) => `(tactic| first | assumption | exact Mine.allLt_ne (by assumption) (by omega)) | `(tactic| k_mem) => `(tactic| first | exact List.Mem.head _ | assumption | (refine' List.Mem.tail _ ?_; k_mem))
section SecMt
theorem Mine.offMt : True := by
  w_top off
  k_with_none
  trivial
open PySem PySem.W
namespace Mine
noncomputable def val (n : Nat) : List Int → Int
  | [] => 0
  | d :: r => d + 2 ^ n * val n r
theorem val_append (n : Nat) (b : List Int) : ∀ a : List Int, val n (a ++ b) = val n a + 2 ^ (n * a.length) * val n b
  | [] => by simp [val]
  | d :: r => by
    rw [List.cons_append, val, val, val_append n b r, List.length_cons, Nat.mul_succ, Int.pow_add, Int.mul_add, ← Int.mul_assoc, Int.mul_comm (2 ^ (n * r.length)) (2 ^ n)]
    omega
def Fil (n : Int) (ns ns' : List Int) (x l r : Int) : Prop :=
  ns'.length = ns.length ∧ ns'.take l.toNat = ns.take l.toNat ∧ ns'.drop r.toNat = ns.drop r.toNat ∧ val n.toNat ((ns'.drop l.toNat).take (r.toNat - l.toNat)) = x ∧ ∀ v ∈ (ns'.drop l.toNat).take (r.toNat - l.toNat), 0 ≤ v ∧ v ≤ x
theorem toNat_succ {l r : Int} (h0 : 0 ≤ l) (h1 : l + 1 = r) : r.toNat = l.toNat + 1 := by omega
theorem fil_one {n x l r : Int} {ns : List Int} (h0 : 0 ≤ l) (h1 : l + 1 = r) (h2 : r ≤ ns.length) (hx : 0 ≤ x) : Fil n ns (ns.set l.toNat x) x l r := by
  have hr := toNat_succ h0 h1
  have hl : l.toNat < ns.length := Nat.lt_of_lt_of_le (hr ▸ Nat.lt_succ_self _ : l.toNat < r.toNat) (Int.toNat_le.mpr h2)
  have hs : ((ns.set l.toNat x).drop l.toNat).take (r.toNat - l.toNat) = [x] := by
    rw [hr, Nat.add_sub_cancel_left]
    rw [List.drop_eq_getElem_cons (by simpa using hl)]
    simp
  refine ⟨List.length_set .., ?_, ?_, ?_, ?_⟩
  · rw [List.take_set_of_le (Nat.le_refl _)]
  · rw [List.drop_set_of_lt (hr ▸ Nat.lt_succ_self _)]
  · rw [hs]; simp [val]
  · rw [hs]; intro v hv; simp at hv; subst hv; exact ⟨hx, Int.le_refl _⟩
theorem low_bd (x : Int) (s : Nat) (hx : 0 ≤ x) : 0 ≤ x % 2 ^ s ∧ x % 2 ^ s ≤ x := by
  have hp : (0 : Int) < 2 ^ s := Int.pow_pos (by omega)
  have hd := Int.emod_add_mul_ediv x (2 ^ s)
  have : 0 ≤ 2 ^ s * (x / 2 ^ s) := Int.mul_nonneg (Int.le_of_lt hp) (Int.ediv_nonneg hx (Int.le_of_lt hp))
  exact ⟨Int.emod_nonneg _ (by omega), by omega⟩
theorem low_le {x : Int} (s : Nat) (hx : 0 ≤ x) : x % 2 ^ s ≤ x := (low_bd x s hx).2
theorem take_seg {a b c : Nat} (ns : List Int) (h : a ≤ b) (h2 : b ≤ c) : (ns.drop a).take (c - a) = (ns.drop a).take (b - a) ++ (ns.drop b).take (c - b) := by
  obtain ⟨k, rfl⟩ := Nat.le.dest h
  obtain ⟨m, rfl⟩ := Nat.le.dest h2
  rw [show a + k + m - a = k + m from by rw [Nat.add_assoc, Nat.add_sub_cancel_left], Nat.add_sub_cancel_left, Nat.add_sub_cancel_left, List.take_add, List.drop_drop]
theorem seg_shift {n l mid : Int} (h0 : 0 ≤ l) (h1 : l ≤ mid) (hn : 0 ≤ n) : n.toNat * (mid.toNat - l.toNat) = ((mid - l) * n).toNat := by
  obtain ⟨n, rfl⟩ := Int.eq_ofNat_of_zero_le hn
  obtain ⟨l, rfl⟩ := Int.eq_ofNat_of_zero_le h0
  obtain ⟨k, rfl⟩ := Int.le.dest h1
  rw [show (l : Int) + k - l = k from by omega, ← Int.natCast_add, ← Int.natCast_mul, Int.toNat_natCast, Int.toNat_natCast, Int.toNat_natCast, Int.toNat_natCast, Nat.add_sub_cancel_left, Nat.mul_comm]
theorem seg_len {a b : Nat} {ns : List Int} (h : b ≤ ns.length) : ((ns.drop a).take (b - a)).length = b - a := by
  rw [List.length_take, List.length_drop]
  exact Nat.min_eq_left (Nat.sub_le_sub_right h a)
theorem fil_join {n x lo up l mid r : Int} {ns ns1 ns2 : List Int} (A : Fil n ns ns1 lo l mid) (B : Fil n ns1 ns2 up mid r) (h0 : 0 ≤ l) (h1 : l ≤ mid) (h2 : mid ≤ r) (h3 : r ≤ ns.length) (hn : 0 ≤ n)
    (hlo : lo = x % 2 ^ ((mid - l) * n).toNat) (hup : up = x / 2 ^ ((mid - l) * n).toNat) (hx : 0 ≤ x) : Fil n ns ns2 x l r := by
  obtain ⟨a1, a2, a3, a4, a5⟩ := A
  obtain ⟨b1, b2, b3, b4, b5⟩ := B
  have hs := seg_shift h0 h1 hn
  have g1 := Int.toNat_le_toNat h1
  have g2 := Int.toNat_le_toNat h2
  have g3 := Int.toNat_le.mpr h3
  unfold Fil
  generalize l.toNat = a at *
  generalize mid.toNat = b at *
  generalize r.toNat = c at *
  generalize ((mid - l) * n).toNat = s at *
  have hl : lo ≤ x := hlo ▸ low_le s hx
  have hu : up ≤ x := hup ▸ Int.ediv_le_self _ hx
  have e1 : (ns2.drop a).take (b - a) = (ns1.drop a).take (b - a) := by
    rw [← List.drop_take, b2, List.drop_take]
  refine ⟨b1.trans a1, ?_, ?_, ?_, ?_⟩
  · have q : ∀ t : List Int, t.take a = (t.take b).take a := fun t => by rw [List.take_take, Nat.min_eq_left g1]
    rw [q ns2, b2, ← q, a2]
  · have q : ∀ t : List Int, t.drop c = (t.drop b).drop (c - b) := fun t => by rw [List.drop_drop, Nat.add_sub_cancel' g2]
    rw [b3, q ns1, a3, ← q]
  · rw [take_seg ns2 g1 g2, val_append, e1, a4, b4, seg_len (a1 ▸ Nat.le_trans g2 g3), hs, hlo, hup]; exact Int.emod_add_mul_ediv x _
  · rw [take_seg ns2 g1 g2]
    intro v hv
    rcases List.mem_append.mp hv with hv | hv
    · rw [e1] at hv; exact ⟨(a5 v hv).1, Int.le_trans (a5 v hv).2 hl⟩
    · exact ⟨(b5 v hv).1, Int.le_trans (b5 v hv).2 hu⟩
theorem and_high (a s : Nat) : a &&& (a / 2 ^ s * 2 ^ s) = a / 2 ^ s * 2 ^ s := by
  apply Nat.eq_of_testBit_eq
  intro i
  rw [Nat.testBit_and, ← Nat.shiftLeft_eq, ← Nat.shiftRight_eq_div_pow, Nat.testBit_shiftLeft, Nat.testBit_shiftRight]
  by_cases h : s ≤ i
  · have : s + (i - s) = i := by omega
    simp [h, this]
  · simp [h]
theorem xor_low (x : Int) (s : Nat) (hx : 0 ≤ x) : Builtin.bitXor x (x.fdiv (2 ^ s) * 2 ^ s) = x % 2 ^ s := by
  have hp : (0 : Int) < 2 ^ s := Int.pow_pos (by omega)
  rw [Int.fdiv_eq_ediv_of_nonneg _ (Int.le_of_lt hp)]
  have hd := Int.emod_add_mul_ediv x (2 ^ s)
  rw [Int.mul_comm] at hd
  obtain ⟨a, rfl⟩ := Int.eq_ofNat_of_zero_le hx
  have e : ((a : Int) / 2 ^ s * 2 ^ s) = ((a / 2 ^ s * 2 ^ s : Nat) : Int) := by
    push_cast; rfl
  have ea : Builtin.bitAnd (a : Int) ((a / 2 ^ s * 2 ^ s : Nat) : Int) = ((a / 2 ^ s * 2 ^ s : Nat) : Int) := by
    have h1 : decide (0 ≤ (a : Int)) = true := decide_eq_true (by omega)
    have h2 : decide (0 ≤ ((a / 2 ^ s * 2 ^ s : Nat) : Int)) = true := decide_eq_true (by omega)
    unfold Builtin.bitAnd
    rw [h1, h2]
    show (((a : Int).toNat &&& ((a / 2 ^ s * 2 ^ s : Nat) : Int).toNat : Nat) : Int) = _
    rw [Int.toNat_natCast, Int.toNat_natCast, and_high]
  rw [PyProof.Rows.bitXor_and, e, ea]
  rw [e] at hd
  omega
theorem fdiv_le {a n : Int} (hn : 0 < n) (ha : 0 ≤ a) : 0 ≤ a.fdiv n ∧ a.fdiv n ≤ a := by
  rw [Int.fdiv_eq_ediv_of_nonneg _ (Int.le_of_lt hn)]
  exact ⟨Int.ediv_nonneg ha (Int.le_of_lt hn), Int.ediv_le_self _ ha⟩
theorem mid_eq (l r : Int) : (l + r).fdiv (2 ^ Int.toNat 1) = (l + r) / 2 := by
  have : (2 : Int) ^ Int.toNat 1 = 2 := by decide
  rw [this, Int.fdiv_eq_ediv_of_nonneg _ (by omega)]
theorem sh_bd {a n : Int} (h0 : 0 ≤ a) (h1 : a ≤ 1000) (hn : 0 ≤ n) (hn2 : n ≤ 64) : 0 ≤ a * n ∧ a * n ≤ 64000 := by
  refine ⟨Int.mul_nonneg h0 hn, ?_⟩
  have := Int.mul_le_mul h1 hn2 hn (by omega)
  omega
theorem up_bd (x : Int) (s : Nat) (hx : 0 ≤ x) : 0 ≤ x.fdiv (2 ^ s) ∧ x.fdiv (2 ^ s) ≤ x := fdiv_le (Int.pow_pos (by omega)) hx
theorem fdiv_pos {a n : Int} (hn : 0 < n) (ha : 1 ≤ a) : 1 ≤ (a + n - 1).fdiv n := by
  rw [Int.fdiv_eq_ediv_of_nonneg _ (Int.le_of_lt hn)]
  exact (Int.le_ediv_iff_mul_le hn).mpr (by omega)
theorem intBits_pos {x : Int} (h : x ≠ 0) (_ : 0 ≤ x) : (1 : Int) ≤ ↑(Builtin.Int.intBits x) := by
  unfold Builtin.Int.intBits
  have : (x == 0) = false := by simpa using h
  rw [this]
  simp only [Bool.false_eq_true, if_false]
  omega
theorem fil_all {n x r : Int} {ns ns' : List Int} (h : Fil n ns ns' x 0 r) (hr : r = ns.length) : val n.toNat ns' = x ∧ (∀ d ∈ ns', 0 ≤ d ∧ d ≤ x) ∧ ns'.length = ns.length := by
  obtain ⟨h1, _, _, h4, h5⟩ := h
  have e : (ns'.drop (Int.toNat 0)).take (r.toNat - Int.toNat 0) = ns' := by
    show ns'.take (r.toNat - 0) = ns'
    rw [Nat.sub_zero]
    exact List.take_of_length_le (by omega)
  rw [e] at h4 h5
  exact ⟨h4, h5, h1⟩
theorem val_zero (n : Nat) : ∀ k : Nat, val n (List.replicate k 0) = 0
  | 0 => rfl
  | k + 1 => by rw [List.replicate_succ, val, val_zero n k]; simp
theorem seg_one {n : Nat} {l r : Int} {ns : List Int} (h0 : 0 ≤ l) (h1 : l + 1 = r) (h2 : r ≤ ns.length) : val n ((ns.drop l.toNat).take (r.toNat - l.toNat)) = ns.getD l.toNat 0 := by
  have hq := toNat_succ h0 h1
  have hl : l.toNat < ns.length := Nat.lt_of_lt_of_le (hq ▸ Nat.lt_succ_self _ : l.toNat < r.toNat) (Int.toNat_le.mpr h2)
  have hr : r.toNat - l.toNat = 1 := by rw [hq, Nat.add_sub_cancel_left]
  rw [hr, List.drop_eq_getElem_cons hl, List.getD_eq_getElem?_getD, List.getElem?_eq_getElem hl]
  show ns[l.toNat] + 2 ^ n * val n [] = _
  show ns[l.toNat] + 2 ^ n * 0 = ns[l.toNat]
  omega
theorem seg_join {n l mid r : Int} {ns : List Int} (h0 : 0 ≤ l) (h1 : l ≤ mid) (h2 : mid ≤ r) (h3 : r ≤ ns.length) (hn : 0 ≤ n) :
    val n.toNat ((ns.drop l.toNat).take (r.toNat - l.toNat)) = val n.toNat ((ns.drop mid.toNat).take (r.toNat - mid.toNat)) * 2 ^ ((mid - l) * n).toNat + val n.toNat ((ns.drop l.toNat).take (mid.toNat - l.toNat)) := by
  have g1 := Int.toNat_le_toNat h1
  have g2 := Int.toNat_le_toNat h2
  have g3 := Int.toNat_le.mpr h3
  rw [take_seg ns g1 g2, val_append, seg_len (Nat.le_trans g2 g3), seg_shift h0 h1 hn, Int.mul_comm, Int.add_comm]
theorem seg_all {n : Nat} {r : Int} {ns : List Int} (h : r = ns.length) : val n ((ns.drop (Int.toNat 0)).take (r.toNat - Int.toNat 0)) = val n ns := by
  show val n (ns.take (r.toNat - 0)) = _
  rw [List.take_of_length_le (by omega)]
theorem val_nonneg (n : Nat) : ∀ {ns : List Int}, (∀ d ∈ ns, 0 ≤ d) → 0 ≤ val n ns
  | [], _ => Int.le_refl _
  | d :: r, h => by
    have h1 := h d (.head _)
    have h2 := val_nonneg n fun x hx => h x (.tail _ hx)
    have : 0 ≤ 2 ^ n * val n r := Int.mul_nonneg (Int.le_of_lt (Int.pow_pos (by omega))) h2
    show 0 ≤ d + 2 ^ n * val n r
    omega
theorem val_le_mul (n k : Nat) {v : Int} (h : 0 ≤ v) : v ≤ 2 ^ (n * k) * v := by
  have : (1 : Int) ≤ 2 ^ (n * k) := Int.pow_pos (by omega)
  have := Int.mul_le_mul_of_nonneg_right this h
  omega
theorem seg_bd {n a b : Nat} {ns : List Int} (h : ∀ d ∈ ns, 0 ≤ d) (hv : val n ns < 2 ^ 60) : 0 ≤ val n ((ns.drop a).take b) ∧ val n ((ns.drop a).take b) < 2 ^ 60 := by
  have e : ns = ns.take a ++ ((ns.drop a).take b ++ (ns.drop a).drop b) := by rw [List.take_append_drop, List.take_append_drop]
  have p1 : 0 ≤ val n (ns.take a) := val_nonneg n fun x hx => h x (List.mem_of_mem_take hx)
  have p2 : 0 ≤ val n ((ns.drop a).take b) := val_nonneg n fun x hx => h x (List.mem_of_mem_drop (List.mem_of_mem_take hx))
  have p3 : 0 ≤ val n ((ns.drop a).drop b) := val_nonneg n fun x hx => h x (List.mem_of_mem_drop (List.mem_of_mem_drop hx))
  refine ⟨p2, ?_⟩
  rw [e, val_append, val_append] at hv
  have q3 := val_le_mul n ((ns.drop a).take b).length p3
  have q2 := val_le_mul n (ns.take a).length (v := val n ((ns.drop a).take b) + 2 ^ (n * ((ns.drop a).take b).length) * val n ((ns.drop a).drop b)) (by omega)
  omega
noncomputable def hor (n : Nat) (l : List Int) : Int := val n l.reverse
theorem hor_snoc (n : Nat) (l : List Int) (d : Int) : hor n (l ++ [d]) = d + 2 ^ n * hor n l := by
  unfold hor; rw [List.reverse_append]; rfl
theorem hor_step {n : Nat} {y r d : Int} {done qs : List Int} (hy : 0 < y) (h : hor n done = y * hor n qs + r) : hor n (done ++ [d]) = y * hor n (qs ++ [(r * 2 ^ n + d).fdiv y]) + (r * 2 ^ n + d).fmod y := by
  rw [hor_snoc, hor_snoc, h]
  have e := Int.mul_fdiv_add_fmod (r * 2 ^ n + d) y
  rw [Int.mul_add, Int.mul_add, ← Int.mul_assoc, ← Int.mul_assoc, Int.mul_comm (2 ^ n) y, Int.mul_comm (2 ^ n) r]
  generalize y * (r * 2 ^ n + d).fdiv y = u at *
  generalize y * 2 ^ n * hor n qs = v at *
  omega
theorem hor_fin {n : Nat} {x y r : Int} {ds qs : List Int} (hy : 0 < y) (hr : 0 ≤ r) (hr2 : r < y) (hv : val n ds = x) (h : hor n ds.reverse = y * hor n qs + r) : val n qs.reverse = x.fdiv y ∧ r = x.fmod y := by
  have e1 : hor n ds.reverse = x := by unfold hor; rw [List.reverse_reverse]; exact hv
  rw [e1] at h
  have e : val n qs.reverse = hor n qs := rfl
  rw [e, Int.fdiv_eq_ediv_of_nonneg _ (Int.le_of_lt hy), Int.fmod_eq_emod_of_nonneg _ (Int.le_of_lt hy)]
  have := (Int.ediv_emod_unique hy (a := x) (r := r) (q := hor n qs)).mpr ⟨by omega, hr, hr2⟩
  exact ⟨this.1.symm, this.2.symm⟩
theorem shl_bd {r : Int} {n : Nat} (h0 : 0 ≤ r) (h1 : r < 2 ^ 20) (hn : n ≤ 20) : 0 ≤ r * 2 ^ (n : Int).toNat ∧ r * 2 ^ (n : Int).toNat < 2 ^ 40 := by
  rw [Int.toNat_natCast]
  have hp : (0 : Int) < 2 ^ n := Int.pow_pos (by omega)
  have hq : (2 : Int) ^ n ≤ 2 ^ 20 := by exact_mod_cast Nat.pow_le_pow_right (by omega) hn
  refine ⟨Int.mul_nonneg h0 (Int.le_of_lt hp), ?_⟩
  have := Int.mul_lt_mul h1 hq hp (by omega)
  omega
end Mine
end SecMt
section SecC1
theorem Mine.offC1 : True := by
  w_top off
  k_with_none
  trivial
open PySem PySem.W PyProof.Rows PySem.Spec PySem.Calls
set_option maxRecDepth 100000
set_option maxHeartbeats 8000000
namespace Mine
abbrev Ct (w : World) (f : Addr) (vs : List Value) (d : Nat) (news : List (Addr × Obj)) (Ret : Value → List (Addr × Obj) → Prop) : Prop :=
  ∀ (p : Program) (loose : List Str) (mean : ExcName → Option Value) (mg mb : Str → Option Value) (dp un : Nat) (gd : Option (List Code)) (cn : Str) (cs : Scope) (a : Addr) (ccd : Value) (cl : List (Str × Addr)) (outer : List Env) (A₀ : Around) (base h₀ : Heap) (L : Addr) (m : Str → Option Value) (s : Shared) (Q E : Value → Shared → Prop),
    Below A₀ base outer h₀ → CodeHd base 34 30 → CodeHd base 41 37 → CodeHd base 62 58 → Fr h₀ L s.heap m → (hd1.heap_39 w.params).In h₀ → News h₀ L s.heap news → Top p loose mean mg mb h₀ → cs.kind = .function → dp + d < recursionLimit → un + 8 * d < cLine →
    (∀ r news' h' tk', Fr h₀ L h' m → News h₀ L h' news' → Ret r news' → Q r { s with heap := h', toks := tk' }) →
    wpAny (model PySem.Challenge.rw_nq0126_01.row.prog w) (ktrTop dp un gd cn cs L a ccd cl outer) (call (.ref f) vs) Q E s
abbrev pairObj (q r : Int) (t1 t2 : Tok) : Obj := { cls := .type "tuple", data := .seq #[.int q t1, .int r t2] }
abbrev RetPair (news : List (Addr × Obj)) (q r : Int) : Value → List (Addr × Obj) → Prop := fun v news' =>
  ∃ t t1 t2, v = .ref t ∧ news' = (t, pairObj q r t1 t2) :: news ∧ ∀ p ∈ news, p.1 < t
theorem div2n1n (w : World) (news : List (Addr × Obj)) (x y n : Int) (tx ty tn : Tok) (hx : 0 ≤ x) (hy : 0 < y) (hx2 : x < 2 ^ 60) (hy2 : y < 2 ^ 30) (hn : 0 ≤ n) :
    Ct w 21 [.int x tx, .int y ty, .int n tn] 1 news (RetPair news (Int.fdiv x y) (Int.fmod x y)) := by
  have hb : Builtin.Int.intBits x ≤ 64 := intBits_le_64 (by omega) (by omega)
  unfold Ct; k_fill
  intro p loose mean mg mb dp un gd cn cs a ccd cl outer A₀ base h₀ L m s Q E B C1 C2 C3 F X N T hk hd hu hret
  refine wpAny_call ?_
  k_dflt ktr_enter
  w_strict k_steps
  all_goals exact hret _ _ _ _ (by k_asm) (by k_asm) ⟨_, _, _, rfl, rfl, fun q hq => Heap.lt_size ((show News _ _ _ news from by assumption) q hq).1⟩
end Mine
end SecC1
section SecI2
theorem Mine.offI2 : True := by
  w_top off
  k_with_none
  trivial
open PySem PySem.W PyProof.Rows PySem.Spec PySem.Calls
set_option maxRecDepth 100000
set_option maxHeartbeats 8000000
namespace Mine
theorem off_of {c d : Addr} {oc : Obj} {W : List (Addr × Obj)} (hm : (c, oc) ∈ W) (h : ∀ p ∈ W, p.1 ≠ d) : c ≠ d := h _ hm
theorem updF_own {P : Addr} {o : Obj} {W : List (Addr × Obj)} (hW : ∀ p ∈ W, p.1 ≠ P) : ∀ own : List (Addr × Obj), (∀ q ∈ own, q.1 ≠ P) → UpdF P o (own ++ (P, o) :: W) (fun o' => own ++ (P, o') :: W)
  | [], _ => .head hW
  | q :: own, h => .tail (h q (.head _)) (updF_own hW own fun x hx => h x (.tail _ hx))
theorem nestBoth {M : Model} {A : Around} {E : Value → Shared → Prop} {s : Shared} {h₀ : Heap} {L a c P : Addr} {m mg mb : Str → Option Value} {cn : Str} {cs : Scope} {ccd : Value} {cl : List (Str × Addr)}
  {p : Program} {loose : List Str} {mean : ExcName → Option Value} {name qual : Str} {params : Arguments} {body : List Stmt} {scope : Scope} {ps : Array Value} {pos : Pos} {firstLine : Nat} {clos : List (Str × Addr)} {Q : Value → Shared → Prop} {own W news : List (Addr × Obj)}
  (F : Fr h₀ L s.heap m) (N : News h₀ L s.heap news) (hn : news = own ++ (P, tabObj ps) :: W) (T : Top p loose mean mg mb h₀) (C : CodeHd h₀ c P) (hcd : ccd = .ref c)
  (hps : ps = #[] ∨ ∃ c oc cvs ct, ps = #[rawInt pos.line, rawInt pos.col, .ref c] ∧ (c, oc) ∈ W ∧ oc.data = .fields cvs ∧ cvs[1]? = some (.str qual ct))
  (hWP : ∀ p ∈ W, p.1 ≠ P) (hoP : ∀ q ∈ own, q.1 ≠ P) (hoW : ∀ q ∈ own, ∀ p ∈ W, p.1 ≠ q.1)
  (hcl : closureFor scope (envX cn cs L a ccd cl) = pure clos)
  (h : ∀ f c' oc vs t ctv doc h' tk W', Fr h₀ L h' m → News h₀ L h' ((f, fnMade name qual params body scope clos doc ((mg "__name__").getD .none) c' ctv) :: (own ++ (P, tabObj #[rawInt pos.line, rawInt pos.col, .ref c']) :: W')) →
     (c', oc) ∈ W' → oc.data = .fields vs → vs[1]? = some (.str qual t) → (∀ q ∈ own ++ (P, tabObj #[rawInt pos.line, rawInt pos.col, .ref c']) :: W', q.1 < f) → (∀ p ∈ W', p.1 ≠ P) → (∀ q ∈ own, ∀ p ∈ W', p.1 ≠ q.1) → (∀ p ∈ W, p ∈ W') →
     (ps = #[rawInt pos.line, rawInt pos.col, .ref c'] ∨ ∀ p ∈ W, p.1 < c') → Q (.ref f) { s with heap := h', toks := tk }) :
    wpAny M A (makeFunction name qual params (.stmts body) scope (envX cn cs L a ccd cl) [] [] [] pos firstLine) Q E s := by
  subst hn
  rcases hps with rfl | ⟨c', oc, cvs, ct, rfl, hm, hd, hv⟩
  · refine nest_K F N T C hcd (updF_own hWP own hoP) True.intro rfl hcl fun f c' oc vs t ctv doc h' tk F' N' d1 d2 l1 l2 => ?_
    have lo : ∀ q ∈ own, q.1 < c' := fun q hq => l1 q (List.mem_append_left _ hq)
    have lP : P < c' := l1 (P, _) (List.mem_append_right _ (.head _))
    have lW : ∀ q ∈ W, q.1 < c' := fun q hq => l1 q (List.mem_append_right _ (.tail _ hq))
    refine h f c' oc vs t ctv doc h' tk ((c', oc) :: W) F' (fun q hq => N' q ?_) (.head _) d1 d2 ?_ ?_ ?_ (fun q hq => .tail _ hq) (.inr lW)
    · rcases List.mem_cons.mp hq with rfl | hq
      · exact .head _
      rcases List.mem_append.mp hq with hq | hq
      · exact .tail _ (.tail _ (List.mem_append_left _ hq))
      rcases List.mem_cons.mp hq with rfl | hq
      · exact .tail _ (.tail _ (List.mem_append_right _ (.head _)))
      rcases List.mem_cons.mp hq with rfl | hq
      · exact .tail _ (.head _)
      · exact .tail _ (.tail _ (List.mem_append_right _ (.tail _ hq)))
    · intro q hq
      rcases List.mem_append.mp hq with hq | hq
      · exact Nat.lt_trans (lo q hq) l2
      rcases List.mem_cons.mp hq with rfl | hq
      · exact Nat.lt_trans lP l2
      rcases List.mem_cons.mp hq with rfl | hq
      · exact l2
      · exact Nat.lt_trans (lW q hq) l2
    · intro q hq
      rcases List.mem_cons.mp hq with rfl | hq
      · exact Nat.ne_of_gt lP
      · exact hWP q hq
    · intro o ho q hq
      rcases List.mem_cons.mp hq with rfl | hq
      · exact Nat.ne_of_gt (lo o ho)
      · exact hoW o ho q hq
  · refine nestHit_K (c' := c') F N T C hcd (List.mem_append_right _ (.head _)) (by simp [TriplesOk, rawInt]) (by simp [codeAmong, rawInt]) hcl fun f ctv doc h' tk F' N' l1 => ?_
    exact h f c' oc cvs ct ctv doc h' tk W F' N' hm hd hv l1 hWP hoW (fun q hq => hq) (.inl rfl)
theorem rulesI2 : True := by
  k_with_none
  k_with "exec FunctionDef" => refine stop ?_
  k_with "call ref" => refine stop ?_
  k_with "binaryOp Mult ref int" => refine stop ?_
  k_with "call builtin:len" => refine stop ?_
  trivial
abbrev Q2 : Str := Str.ofString "_int2digits.<locals>.inner"
inductive Ret2 (ps : Array Value) (W : List (Addr × Obj)) (x n : Int) (v : Value) (news' : List (Addr × Obj)) : Prop
  | mk (dl : _) (vs : _) (ds : _) (c : _) (oc : _) (cvs : _) (ct : _) (w1 : v = .ref dl) (w2 : news' = (dl, listOf vs.toArray 0) :: (30, tabObj #[rawInt 32, rawInt 4, .ref c]) :: (c, oc) :: W) (w3 : IntsAre vs ds) (w4 : val n.toNat ds = x) (w5 : (∀ d ∈ ds, 0 ≤ d ∧ d ≤ x)) (w6 : ds.length ≤ 128) (w7 : oc.data = .fields cvs) (w8 : cvs[1]? = some (.str (Str.ofString "_int2digits.<locals>.inner") ct)) (w9 : (∀ p ∈ W, p.1 < dl)) (w10 : 30 < dl) (w11 : c ≠ dl) (w12 : c ≠ 30) (w13 : ps = #[rawInt 32, rawInt 4, .ref c] ∨ ∀ p ∈ W, p.1 < c)
def InnerOk (w : World) (f dl : Addr) (n : Int) (W : List (Addr × Obj)) : Prop :=
  ∀ (d : Nat) (x l r : Int) (tx tl tr : Tok) (vs : List Value) (ns : List Int) (k : Nat), 0 ≤ x → x < 2 ^ 60 → 0 ≤ l → l < r → r ≤ ns.length → r - l ≤ d → ns.length ≤ 1000 → IntsAre vs ns →
   Ct w f [.int x tx, .int l tl, .int r tr] (d + 1) ((dl, listOf vs.toArray k) :: W) (fun v news' => v = .none ∧ ∃ (vs' : List Value) (ns' : List Int), news' = (dl, listOf vs'.toArray k) :: W ∧ IntsAre vs' ns' ∧ Fil n ns ns' x l r)
theorem inner_start {prog : Program} {w : World} {A : Around} {f dl : Addr} {args : List Value} {Q E : Value → Shared → Prop} {s : Shared} {h₀ h : Heap} {L : Addr} {n : Int} {W : List (Addr × Obj)} {vs : List Value} {k : Nat}
  (_N : News h₀ L h ((dl, listOf vs.toArray k) :: W)) (hI : InnerOk w f dl n W) (rest : InnerOk w f dl n W → wpAny (model prog w) A (call (.ref f) args) Q E s) :
   Stop (wpAny (model prog w) A (call (.ref f) args) Q E s) := rest hI
theorem int2_all (w : World) (W : List (Addr × Obj)) (x n : Int) (tx tn : Tok) (hx : 0 ≤ x) (hx2 : x < 2 ^ 60) (hn : 0 < n) (hn2 : n ≤ 64) (hW30 : ∀ p ∈ W, p.1 ≠ 30) (ps : Array Value) (hps : ps = #[] ∨ ∃ c oc cvs ct, ps = #[rawInt 32, rawInt 4, .ref c] ∧ (c, oc) ∈ W ∧ oc.data = .fields cvs ∧ cvs[1]? = some (.str (Str.ofString "_int2digits.<locals>.inner") ct)) :
    Ct w 35 [.int x tx, .int n tn] 200 ((30, tabObj ps) :: W) (Ret2 ps W x n) := by
  have hb : Builtin.Int.intBits x ≤ 64 := intBits_le_64 (by omega) (by omega)
  have hq := (fdiv_le (a := ↑(Builtin.Int.intBits x) + n - 1) hn (by omega)).1
  have hq2 : ((↑(Builtin.Int.intBits x) + n - 1 : Int).fdiv n) ≤ 128 := by have := (fdiv_le (a := ↑(Builtin.Int.intBits x) + n - 1) hn (by omega)).2; omega
  unfold Ct; k_fill
  intro p loose mean mg mb dp un gd cn cs a ccd cl outer A₀ base h₀ L m s Q E B C1 C2 C3 F X N T hk hd hu hret
  refine wpAny_call ?_
  k_dflt (refine' code_defC ?k1 ?k2 ?k3 ?k4 ?k5 ?kA ?kF ?kK ?k6 ?k7 ?k8 ?k9 ?kB ?kD ?_ ?c2 ?c3 ?c4; (case kA => exact rfl); (case kF => exact rfl); (case kK => assumption); (case k1 => k_asm); (case k2 => k_asm); (case k3 => k_asm); (case k4 => k_asm); (case k5 => k_asm); (case k6 => k_is); (case k7 => k_is); (case k8 => k_room); (case k9 => exact BindsTo.of_eq rfl); (case kB => exact rfl); (case kD => decide +kernel); (case c2 => exact rfl); (case c3 => exact rfl); (case c4 => exact rfl); k_whole; intro g' L' h' tk' cells' FG' F' N' Y' B' X' T' l1; (try k_lt l1); k_cells Y'; (try simp only [List.cons_append, List.nil_append] at N'); (try dsimp only); (try k_lift B'); (try k_fold))
  have hW : AllLt L' W := l1.2
  w_strict k_steps
  unfold Stop
  ((refine' mulZero ?k1 ?k2 ?k3 ?k4 ?k5 ?_; (case k1 => k_asm); (case k2 => k_asm); (case k3 => k_mem); (case k4 => assumption); (case k5 => omega); intro l' vs' h' I' F' N' l1; (try k_lt l1)))
  w_strict k_steps
  unfold Stop
  (k_dflt (refine' nestDef_K ?d0 ?k0 ?a0 ?_; (case d0 => exact rfl); (case k0 => exact rfl); (case a0 => exact rfl)); k_dflt (refine' nestBoth (own := [_, _, _, _, _]) ?F ?N ?hn ?T ?C ?cd ?hps ?wp ?op ?ow ?cl ?_; (case F => k_asm); (case N => k_asm); (case hn => exact rfl); (case T => k_asm); (case cd => exact rfl); (case C => kn_code); (case hps => assumption); (case wp => assumption); (case op => simp only [List.forall_mem_cons, List.not_mem_nil, false_implies, implies_true, and_true]; refine ⟨?_, ?_, ?_, ?_, ?_⟩ <;> (refine neN ?_; (try dsimp only); omega)); (case ow => simp only [List.forall_mem_cons, List.not_mem_nil, false_implies, implies_true, and_true]; refine ⟨?_, ?_, ?_, ?_, ?_⟩ <;> k_all); (case cl => exact rfl); k_whole); intro f' c' oc' vs' t' ct' dc' h' tk' W' F' N' m' d1' d2' l1 e1 e2 s1 g1; (try simp only [List.cons_append, List.nil_append] at N' l1); (try dsimp only at N'); (try k_lt l1); have e21 := e2 _ (.head _); have e22 := e2 _ (.tail _ (.head _)); have e23 := e2 _ (.tail _ (.tail _ (.head _))); have e24 := e2 _ (.tail _ (.tail _ (.tail _ (.head _)))); have e25 := e2 _ (.tail _ (.tail _ (.tail _ (.tail _ (.head _))))); clear e2; (try dsimp only at e21 e22 e23 e24 e25))
  w_strict k_steps
  · unfold Stop
    ((refine' lenInts ?k1 ?k2 ?k3 ?k4 ?_; (case k1 => k_asm); (case k2 => k_mem); (case k3 => assumption); (case k4 => first | assumption | omega | (simp only [List.length_replicate]; omega)); intro t' tk'))
    w_strict k_steps
    (with_reducible rename News _ _ _ _ => N9)
    refine inner_start (n := n) (news_pull1 N9) ?_ ?_
    · unfold InnerOk Ct
      intro d
      induction d with
      | zero => intros; exfalso; omega
      | succ d ih =>
      intro x l r tx tl tr vs ns k hx0 hx60 hl0 hlr hrn hrd hns hI p loose mean mg mb dp un gd cn cs a ccd cl outer A₀ base h₀ L m s Q E B C1 C2 C3 F X N T hk hd hu hret
      have hmid := mid_eq l r
      have hsh := sh_bd (a := (l + r).fdiv (2 ^ Int.toNat 1) - l) (n := n) (by omega) (by omega) (by omega) (by omega)
      have hxo := xor_low x (((l + r).fdiv (2 ^ Int.toNat 1) - l) * n).toNat hx0
      have hlo := low_bd x (((l + r).fdiv (2 ^ Int.toNat 1) - l) * n).toNat hx0
      have hup := up_bd x (((l + r).fdiv (2 ^ Int.toNat 1) - l) * n).toNat hx0
      refine wpAny_call ?_
      k_dflt (refine' code_nest ?k1 ?k2 ?k3 ?k4 ?k5 ?kA ?kF ?kK ?k6 ?k7 ?k8 ?k9 ?kB ?_ ?c2 ?c3 ?c4 ?c5; (case kA => exact rfl); (case kF => exact rfl); (case kK => assumption); (case k1 => k_asm); (case k2 => k_asm); (case k3 => k_asm); (case k4 => k_asm); (case k5 => k_asm); (case k6 => k_mem); (case k7 => exact codeRec_news (by k_asm) (by k_mem) (by assumption) (by assumption)); (case k8 => k_room); (case k9 => exact BindsTo.of_eq rfl); (case c5 => decide); (case kB => exact locs rfl); (case c2 => exact rfl); (case c3 => exact rfl); (case c4 => exact rfl); k_whole; intro g' L' h' FG' F' N' B' X' T'; (try dsimp only); (try k_lift B'); (try k_fold))
      w_strict k_steps
      · exact hret _ _ _ _ (by k_asm) (by k_asm) ⟨rfl, _, _, rfl, by assumption, fil_one hl0 (by assumption) hrn hx0⟩
      · rw [hxo]
        unfold Stop
        k_dflt (refine' ih _ _ _ _ _ _ _ _ _ ?p1 ?p2 ?p3 ?p4 ?p5 ?p6 ?p7 ?p8 _ _ _ _ _ _ _ _ _ _ _ _ _ _ _ _ _ _ _ _ _ _ ?k1 ?c1 ?c2 ?c3 ?k2 ?k3 ?k4 ?k5 ?kK ?kd ?ku ?_; (case k1 => k_asm); (case k2 => k_asm); (case k3 => k_asm); (case k4 => k_asm); (case k5 => k_asm); (case kK => first | exact rfl | assumption))
        (case p8 => assumption)
        (case p1 => omega)
        (case p2 => omega)
        (case p3 => omega)
        (case p4 => omega)
        (case p5 => omega)
        (case p6 => omega)
        (case p7 => omega)
        (case c1 => assumption)
        (case c2 => assumption)
        (case c3 => assumption)
        (case kd => dsimp only [ktrTop]; omega)
        (case ku => dsimp only [ktrTop]; omega)
        rintro r9 news9 h9 tk9 F9 N9 ⟨rfl, vs9, ns9, rfl, I9, Fl9⟩
        have e9 := Fl9.1
        dsimp only
        w_strict k_steps
        unfold Stop
        k_dflt (refine' ih _ _ _ _ _ _ _ _ _ ?p1 ?p2 ?p3 ?p4 ?p5 ?p6 ?p7 ?p8 _ _ _ _ _ _ _ _ _ _ _ _ _ _ _ _ _ _ _ _ _ _ ?k1 ?c1 ?c2 ?c3 ?k2 ?k3 ?k4 ?k5 ?kK ?kd ?ku ?_; (case k1 => k_asm); (case k2 => k_asm); (case k3 => k_asm); (case k4 => k_asm); (case k5 => k_asm); (case kK => first | exact rfl | assumption))
        (case p8 => assumption)
        (case p1 => omega)
        (case p2 => omega)
        (case p3 => omega)
        (case p4 => omega)
        (case p5 => omega)
        (case p6 => omega)
        (case p7 => omega)
        (case c1 => assumption)
        (case c2 => assumption)
        (case c3 => assumption)
        (case kd => dsimp only [ktrTop]; omega)
        (case ku => dsimp only [ktrTop]; omega)
        rintro r8 news8 h8 tk8 F8 N8 ⟨rfl, vs8, ns8, rfl, I8, Fl8⟩
        dsimp only
        w_strict k_steps
        exact hret _ _ _ _ (by k_asm) (by k_asm) ⟨rfl, _, _, rfl, I8, fil_join Fl9 Fl8 hl0 (by omega) (by omega) hrn (by omega) rfl (Int.fdiv_eq_ediv_of_nonneg _ (Int.le_of_lt (Int.pow_pos (by omega)))) hx0⟩
    · intro hI9
      have N10 := news_pull1 N9
      refine stop ?_
      unfold Stop
      k_dflt (refine' hI9 (List.replicate ((↑(Builtin.Int.intBits x) + n - 1 : Int).fdiv n).toNat (0 : Int)).length _ _ _ _ _ _ _ _ _ ?p1 ?p2 ?p3 ?p4 ?p5 ?p6 ?p7 ?p8 _ _ _ _ _ _ _ _ _ _ _ _ _ _ _ _ _ _ _ _ _ _ ?k1 ?c1 ?c2 ?c3 ?k2 ?k3 ?k4 ?k5 ?kK ?kd ?ku ?_; (case k1 => k_asm); (case k2 => k_asm); (case k3 => k_asm); (case k4 => k_asm); (case k5 => k_asm); (case kK => first | exact rfl | assumption))
      (case p8 => assumption)
      (case p1 => omega)
      (case p2 => omega)
      (case p3 => omega)
      (case p4 => have hpos := fdiv_pos hn (intBits_pos (by assumption) hx); simp only [List.length_replicate]; omega)
      (case p5 => omega)
      (case p6 => omega)
      (case p7 => simp only [List.length_replicate]; omega)
      (case c1 => assumption)
      (case c2 => assumption)
      (case c3 => assumption)
      (case kd => dsimp only [ktrTop]; (try simp only [List.length_replicate]); omega)
      (case ku => dsimp only [ktrTop]; (try simp only [List.length_replicate]); omega)
      rintro r9 news9 h9 tk9 F9 N8 ⟨rfl, vs9, ns9, rfl, I9, Fl9⟩
      dsimp only
      w_strict k_steps
      (with_reducible rename News _ _ _ _ => N7)
      (try simp only [Array.empty_append] at N7)
      have Fa := fil_all Fl9 rfl
      simp only [List.length_replicate] at Fa
      refine hret _ _ _ _ (by k_asm) (drop3 (a := (_, listOf _ 0)) (b := (30, tabObj #[rawInt 32, rawInt 4, .ref _])) (c := (_, _)) N7 (by k_mem) (by k_mem) (by k_mem) (by intro q hq; repeat (first | exact (show ∀ p ∈ W, p ∈ _ from by assumption) q hq | refine List.Mem.tail _ ?_))) ⟨_, _, _, _, _, _, _, rfl, rfl, I9, Fa.1, Fa.2.1, (by omega), by assumption, by assumption, ?_, ?_, ?_, ?_, ?_⟩
      · exact fun p hp => Nat.lt_of_lt_of_le (allLt_get hW p hp) (by omega)
      · refine ltN ?_; (try dsimp only); omega
      · exact off_of (by assumption) (by assumption)
      · exact off_of (by assumption) (by assumption)
      · assumption
  · (with_reducible rename News _ _ _ _ => N7)
    (try simp only [Array.empty_append] at N7)
    refine hret _ _ _ _ (by k_asm) (drop3 (a := (_, listOf _ 0)) (b := (30, tabObj #[rawInt 32, rawInt 4, .ref _])) (c := (_, _)) N7 (by k_mem) (by k_mem) (by k_mem) (by intro q hq; repeat (first | exact (show ∀ p ∈ W, p ∈ _ from by assumption) q hq | refine List.Mem.tail _ ?_))) ⟨_, _, _, _, _, _, _, rfl, rfl, (by assumption), (by rw [val_zero]; omega), (by intro d hd; have := List.eq_of_mem_replicate hd; omega), (by rw [List.length_replicate]; omega), by assumption, by assumption, ?_, ?_, ?_, ?_, ?_⟩
    · exact fun p hp => Nat.lt_of_lt_of_le (allLt_get hW p hp) (by omega)
    · refine ltN ?_; (try dsimp only); omega
    · exact off_of (by assumption) (by assumption)
    · exact off_of (by assumption) (by assumption)
    · assumption
theorem int2_miss (w : World) (W : List (Addr × Obj)) (x n : Int) (tx tn : Tok) (hx : 0 ≤ x) (hx2 : x < 2 ^ 60) (hn : 0 < n) (hn2 : n ≤ 64) (hW30 : ∀ p ∈ W, p.1 ≠ 30) :
    Ct w 35 [.int x tx, .int n tn] 200 ((30, tabObj #[]) :: W) (Ret2 #[] W x n) := int2_all w W x n tx tn hx hx2 hn hn2 hW30 _ (.inl rfl)
theorem int2_hit (w : World) (W : List (Addr × Obj)) (x n : Int) (tx tn : Tok) (hx : 0 ≤ x) (hx2 : x < 2 ^ 60) (hn : 0 < n) (hn2 : n ≤ 64) (hW30 : ∀ p ∈ W, p.1 ≠ 30) (c : Addr) (oc : Obj) (cvs : Array Value) (ct : Tok) (hcm : (c, oc) ∈ W) (hcd : oc.data = .fields cvs) (hcv : cvs[1]? = some (.str (Str.ofString "_int2digits.<locals>.inner") ct)) :
    Ct w 35 [.int x tx, .int n tn] 200 ((30, tabObj #[rawInt 32, rawInt 4, .ref c]) :: W) (Ret2 #[rawInt 32, rawInt 4, .ref c] W x n) := int2_all w W x n tx tn hx hx2 hn hn2 hW30 _ (.inr ⟨c, oc, cvs, ct, rfl, hcm, hcd, hcv⟩)
end Mine
end SecI2
section SecD2
theorem Mine.offD2 : True := by
  w_top off
  k_with_none
  trivial
open PySem PySem.W PyProof.Rows PySem.Spec PySem.Calls
set_option maxRecDepth 100000
set_option maxHeartbeats 8000000
namespace Mine
theorem rulesD2 : True := by
  k_with_none
  k_with "call ref" => refine stop ?_
  k_with "exec FunctionDef" => refine stop ?_
  k_with "truthy ref" => refine stop ?_
  k_with "call builtin:len" => refine stop ?_
  trivial
inductive RetD (ps : Array Value) (W : List (Addr × Obj)) (x : Int) (v : Value) (news' : List (Addr × Obj)) : Prop
  | mk (t : _) (c : _) (oc : _) (cvs : _) (ct : _) (w1 : v = .int x t) (w2 : news' = (37, tabObj #[rawInt 47, rawInt 4, .ref c]) :: (c, oc) :: W) (w3 : oc.data = .fields cvs) (w4 : cvs[1]? = some (.str (Str.ofString "_digits2int.<locals>.inner") ct)) (w5 : c ≠ 37) (w6 : ps = #[rawInt 47, rawInt 4, .ref c] ∨ ∀ p ∈ W, p.1 < c)
def InnerD (w : World) (f : Addr) (n : Int) (ns : List Int) (W : List (Addr × Obj)) : Prop :=
  ∀ (d : Nat) (l r : Int) (tl tr : Tok), 0 ≤ l → l < r → r ≤ ns.length → r - l ≤ d → 
   Ct w f [.int l tl, .int r tr] (d + 1) W (fun v news' => news' = W ∧ ∃ t, v = .int (val n.toNat ((ns.drop l.toNat).take (r.toNat - l.toNat))) t)
theorem innerD_start {prog : Program} {w : World} {A : Around} {f : Addr} {args : List Value} {Q E : Value → Shared → Prop} {s : Shared} {h₀ h : Heap} {L : Addr} {n : Int} {ns : List Int} {W : List (Addr × Obj)}
  (_N : News h₀ L h W) (hI : InnerD w f n ns W) (rest : InnerD w f n ns W → wpAny (model prog w) A (call (.ref f) args) Q E s) :
   Stop (wpAny (model prog w) A (call (.ref f) args) Q E s) := rest hI
theorem d2i_all (w : World) (W : List (Addr × Obj)) (ql : Addr) (vs : List Value) (ns : List Int) (k : Nat) (n : Int) (tn : Tok) (hn : 0 < n) (hn2 : n ≤ 64) (hql : (ql, listOf vs.toArray k) ∈ W) (hi : IntsAre vs ns) (hlen : ns.length ≤ 128) (hnn : ∀ d ∈ ns, 0 ≤ d) (hval : val n.toNat ns < 2 ^ 60) (hW37 : ∀ p ∈ W, p.1 ≠ 37) (ps : Array Value) (hps : ps = #[] ∨ ∃ c oc cvs ct, ps = #[rawInt 47, rawInt 4, .ref c] ∧ (c, oc) ∈ W ∧ oc.data = .fields cvs ∧ cvs[1]? = some (.str (Str.ofString "_digits2int.<locals>.inner") ct)) :
    Ct w 42 [.ref ql, .int n tn] 200 ((37, tabObj ps) :: W) (RetD ps W (val n.toNat ns)) := by
  unfold Ct; k_fill
  intro p loose mean mg mb dp un gd cn cs a ccd cl outer A₀ base h₀ L m s Q E B C1 C2 C3 F X N T hk hd hu hret
  refine wpAny_call ?_
  k_dflt (refine' code_defC ?k1 ?k2 ?k3 ?k4 ?k5 ?kA ?kF ?kK ?k6 ?k7 ?k8 ?k9 ?kB ?kD ?_ ?c2 ?c3 ?c4; (case kA => exact rfl); (case kF => exact rfl); (case kK => assumption); (case k1 => k_asm); (case k2 => k_asm); (case k3 => k_asm); (case k4 => k_asm); (case k5 => k_asm); (case k6 => k_is); (case k7 => k_is); (case k8 => k_room); (case k9 => exact BindsTo.of_eq rfl); (case kB => exact rfl); (case kD => decide +kernel); (case c2 => exact rfl); (case c3 => exact rfl); (case c4 => exact rfl); k_whole; intro g' L' h' tk' cells' FG' F' N' Y' B' X' T' l1; (try k_lt l1); k_cells Y'; (try simp only [List.cons_append, List.nil_append] at N'); (try dsimp only); (try k_lift B'); (try k_fold))
  have hW : AllLt L' W := l1.2
  have hi0 := hi
  w_strict k_steps
  unfold Stop
  (k_dflt (refine' nestDef_K ?d0 ?k0 ?a0 ?_; (case d0 => exact rfl); (case k0 => exact rfl); (case a0 => exact rfl)); k_dflt (refine' nestBoth (own := [_, _, _]) ?F ?N ?hn ?T ?C ?cd ?hps ?wp ?op ?ow ?cl ?_; (case F => k_asm); (case N => k_asm); (case hn => exact rfl); (case T => k_asm); (case cd => exact rfl); (case C => kn_code); (case hps => assumption); (case wp => assumption); (case op => simp only [List.forall_mem_cons, List.not_mem_nil, false_implies, implies_true, and_true]; refine ⟨?_, ?_, ?_⟩ <;> (refine neN ?_; (try dsimp only); omega)); (case ow => simp only [List.forall_mem_cons, List.not_mem_nil, false_implies, implies_true, and_true]; refine ⟨?_, ?_, ?_⟩ <;> k_all); (case cl => exact rfl); k_whole); intro f' c' oc' vs' t' ct' dc' h' tk' W' F' N' m' d1' d2' l1 e1 e2 s1 g1; (try simp only [List.cons_append, List.nil_append] at N' l1); (try dsimp only at N'); (try k_lt l1); have e21 := e2 _ (.head _); have e22 := e2 _ (.tail _ (.head _)); have e23 := e2 _ (.tail _ (.tail _ (.head _))); clear e2; (try dsimp only at e21 e22 e23))
  have hql' := s1 _ hql
  w_strict k_steps
  unfold Stop
  ((refine' truthyInts ?k1 ?k2 ?k3 ?k4 ?_ ?_; (case k1 => k_asm); (case k2 => k_mem); (case k3 => assumption); (case k4 => first | assumption | omega); (all_goals intro hne' tk'); (all_goals (try dsimp only))))
  · w_strict k_steps
    unfold Stop
    ((refine' lenInts ?k1 ?k2 ?k3 ?k4 ?_; (case k1 => k_asm); (case k2 => k_mem); (case k3 => assumption); (case k4 => first | assumption | omega | (simp only [List.length_replicate]; omega)); intro t' tk'))
    w_strict k_steps
    (with_reducible rename News _ _ _ _ => N9)
    refine innerD_start (n := n) (ns := ns) N9 ?_ ?_
    · unfold InnerD Ct
      intro d
      induction d with
      | zero => intros; exfalso; omega
      | succ d ih =>
      intro l r tl tr hl0 hlr hrn hrd p loose mean mg mb dp un gd cn cs a ccd cl outer A₀ base h₀ L m s Q E B C1 C2 C3 F X N T hk hd hu hret
      have hmid := mid_eq l r
      have hsh := sh_bd (a := (l + r).fdiv (2 ^ Int.toNat 1) - l) (n := n) (by omega) (by omega) (by omega) (by omega)
      refine wpAny_call ?_
      k_dflt (refine' code_nest ?k1 ?k2 ?k3 ?k4 ?k5 ?kA ?kF ?kK ?k6 ?k7 ?k8 ?k9 ?kB ?_ ?c2 ?c3 ?c4 ?c5; (case kA => exact rfl); (case kF => exact rfl); (case kK => assumption); (case k1 => k_asm); (case k2 => k_asm); (case k3 => k_asm); (case k4 => k_asm); (case k5 => k_asm); (case k6 => k_mem); (case k7 => exact codeRec_news (by k_asm) (by k_mem) (by assumption) (by assumption)); (case k8 => k_room); (case k9 => exact BindsTo.of_eq rfl); (case c5 => decide); (case kB => exact locs rfl); (case c2 => exact rfl); (case c3 => exact rfl); (case c4 => exact rfl); k_whole; intro g' L' h' FG' F' N' B' X' T'; (try dsimp only); (try k_lift B'); (try k_fold))
      w_strict k_steps
      · exact hret _ _ _ _ (by k_asm) (by k_asm) ⟨rfl, _, congrArg (fun z => Value.int z _) (seg_one hl0 (by assumption) hrn).symm⟩
      ·
        unfold Stop
        k_dflt (refine' ih _ _ _ _ ?p1 ?p2 ?p3 ?p4 _ _ _ _ _ _ _ _ _ _ _ _ _ _ _ _ _ _ _ _ _ _ ?k1 ?c1 ?c2 ?c3 ?k2 ?k3 ?k4 ?k5 ?kK ?kd ?ku ?_; (case k1 => k_asm); (case k2 => k_asm); (case k3 => k_asm); (case k4 => k_asm); (case k5 => k_asm); (case kK => first | exact rfl | assumption))
        (case p1 => omega)
        (case p2 => omega)
        (case p3 => omega)
        (case p4 => omega)
        (case c1 => assumption)
        (case c2 => assumption)
        (case c3 => assumption)
        (case kd => dsimp only [ktrTop]; omega)
        (case ku => dsimp only [ktrTop]; omega)
        rintro r9 news9 h9 tk9 F9 N9 ⟨rfl, t9, rfl⟩
        have hbd9 := seg_bd (a := ((l + r).fdiv (2 ^ Int.toNat 1)).toNat) (b := r.toNat - ((l + r).fdiv (2 ^ Int.toNat 1)).toNat) hnn hval
        dsimp only
        w_strict k_steps
        unfold Stop
        k_dflt (refine' ih _ _ _ _ ?p1 ?p2 ?p3 ?p4 _ _ _ _ _ _ _ _ _ _ _ _ _ _ _ _ _ _ _ _ _ _ ?k1 ?c1 ?c2 ?c3 ?k2 ?k3 ?k4 ?k5 ?kK ?kd ?ku ?_; (case k1 => k_asm); (case k2 => k_asm); (case k3 => k_asm); (case k4 => k_asm); (case k5 => k_asm); (case kK => first | exact rfl | assumption))
        (case p1 => omega)
        (case p2 => omega)
        (case p3 => omega)
        (case p4 => omega)
        (case c1 => assumption)
        (case c2 => assumption)
        (case c3 => assumption)
        (case kd => dsimp only [ktrTop]; omega)
        (case ku => dsimp only [ktrTop]; omega)
        rintro r8 news8 h8 tk8 F8 N8 ⟨rfl, t8, rfl⟩
        dsimp only
        w_strict k_steps
        exact hret _ _ _ _ (by k_asm) (by k_asm) ⟨rfl, _, congrArg (fun z => Value.int z _) (seg_join hl0 (by omega) (by omega) hrn (by omega)).symm⟩
    · intro hI9
      refine stop ?_
      unfold Stop
      k_dflt (refine' hI9 ns.length _ _ _ _ ?p1 ?p2 ?p3 ?p4 _ _ _ _ _ _ _ _ _ _ _ _ _ _ _ _ _ _ _ _ _ _ ?k1 ?c1 ?c2 ?c3 ?k2 ?k3 ?k4 ?k5 ?kK ?kd ?ku ?_; (case k1 => k_asm); (case k2 => k_asm); (case k3 => k_asm); (case k4 => k_asm); (case k5 => k_asm); (case kK => first | exact rfl | assumption))
      (case p1 => omega)
      (case p2 => omega)
      (case p3 => omega)
      (case p4 => omega)
      (case c1 => assumption)
      (case c2 => assumption)
      (case c3 => assumption)
      (case kd => dsimp only [ktrTop]; omega)
      (case ku => dsimp only [ktrTop]; omega)
      rintro r9 news9 h9 tk9 F9 N8 ⟨rfl, t9, rfl⟩
      dsimp only
      w_strict k_steps
      (with_reducible rename News _ _ _ _ => N7)
      (try simp only [Array.empty_append] at N7)
      refine hret _ _ _ _ (by k_asm) (drop2 (b := (37, tabObj #[rawInt 47, rawInt 4, .ref _])) (c := (_, _)) N7 (by k_mem) (by k_mem) (by intro q hq; repeat (first | exact (show ∀ p ∈ W, p ∈ _ from by assumption) q hq | refine List.Mem.tail _ ?_))) ⟨_, _, _, _, _, congrArg (fun z => Value.int z _) (seg_all rfl), rfl, by assumption, by assumption, ?_, ?_⟩
      · exact off_of (by assumption) (by assumption)
      · assumption
  · w_strict k_steps
    (with_reducible rename News _ _ _ _ => N7)
    (try simp only [Array.empty_append] at N7)
    (with_reducible rename ns = [] => hnil)
    refine hret _ _ _ _ (by k_asm) (drop2 (b := (37, tabObj #[rawInt 47, rawInt 4, .ref _])) (c := (_, _)) N7 (by k_mem) (by k_mem) (by intro q hq; repeat (first | exact (show ∀ p ∈ W, p ∈ _ from by assumption) q hq | refine List.Mem.tail _ ?_))) ⟨_, _, _, _, _, congrArg (fun z => Value.int z _) (by rw [hnil]; rfl), rfl, by assumption, by assumption, ?_, ?_⟩
    · exact off_of (by assumption) (by assumption)
    · assumption
theorem d2i_miss (w : World) (W : List (Addr × Obj)) (ql : Addr) (vs : List Value) (ns : List Int) (k : Nat) (n : Int) (tn : Tok) (hn : 0 < n) (hn2 : n ≤ 64) (hql : (ql, listOf vs.toArray k) ∈ W) (hi : IntsAre vs ns) (hlen : ns.length ≤ 128) (hnn : ∀ d ∈ ns, 0 ≤ d) (hval : val n.toNat ns < 2 ^ 60) (hW37 : ∀ p ∈ W, p.1 ≠ 37) :
    Ct w 42 [.ref ql, .int n tn] 200 ((37, tabObj #[]) :: W) (RetD #[] W (val n.toNat ns)) := d2i_all w W ql vs ns k n tn hn hn2 hql hi hlen hnn hval hW37 _ (.inl rfl)
theorem d2i_hit (w : World) (W : List (Addr × Obj)) (ql : Addr) (vs : List Value) (ns : List Int) (k : Nat) (n : Int) (tn : Tok) (hn : 0 < n) (hn2 : n ≤ 64) (hql : (ql, listOf vs.toArray k) ∈ W) (hi : IntsAre vs ns) (hlen : ns.length ≤ 128) (hnn : ∀ d ∈ ns, 0 ≤ d) (hval : val n.toNat ns < 2 ^ 60) (hW37 : ∀ p ∈ W, p.1 ≠ 37) (c : Addr) (oc : Obj) (cvs : Array Value) (ct : Tok) (hcm : (c, oc) ∈ W) (hcd : oc.data = .fields cvs) (hcv : cvs[1]? = some (.str (Str.ofString "_digits2int.<locals>.inner") ct)) :
    Ct w 42 [.ref ql, .int n tn] 200 ((37, tabObj #[rawInt 47, rawInt 4, .ref c]) :: W) (RetD #[rawInt 47, rawInt 4, .ref c] W (val n.toNat ns)) := d2i_all w W ql vs ns k n tn hn hn2 hql hi hlen hnn hval hW37 _ (.inr ⟨c, oc, cvs, ct, rfl, hcm, hcd, hcv⟩)
end Mine
end SecD2
section SecDM
theorem Mine.offDM : True := by
  w_top off
  k_with_none
  trivial
open PySem PySem.W PyProof.Rows PySem.Spec PySem.Calls
set_option maxRecDepth 100000
set_option maxHeartbeats 8000000
namespace Mine
theorem rulesDM : True := by
  k_with_none
  k_with "call ref" => refine stop ?_
  k_with "RevRest" => refine stop ?_
  k_with "UnrEnd" => refine stop ?_
  k_with "call builtin:list.reverse" => refine stop ?_
  k_with "pyIter ref" => refine stop ?_
  k_with "eval Name" => (k_here; k_dflt (refine' ld (by k_asm) (by first | exact rfl | assumption) ?_; k_whole))
  trivial
inductive RetQ (ps30 ps37 : Array Value) (W : List (Addr × Obj)) (q r : Int) (v : Value) (news' : List (Addr × Obj)) : Prop
  | mk (t : Addr) (t1 t2 : Tok) (c : Addr) (oc : Obj) (cvs : Array Value) (ct : Tok) (c2 : Addr) (oc2 : Obj) (cvs2 : Array Value) (ct2 : Tok) (e1 : v = .ref t) (e2 : news' = (t, pairObj q r t1 t2) :: (30, tabObj #[rawInt 32, rawInt 4, .ref c]) :: (37, tabObj #[rawInt 47, rawInt 4, .ref c2]) :: (c, oc) :: (c2, oc2) :: W)
    (h1 : oc.data = .fields cvs) (h2 : cvs[1]? = some (.str (Str.ofString "_int2digits.<locals>.inner") ct)) (h3 : oc2.data = .fields cvs2) (h4 : cvs2[1]? = some (.str (Str.ofString "_digits2int.<locals>.inner") ct2)) (h5 : ∀ p ∈ W, p.1 < t) (h6 : 37 < t) (h7 : c < t) (h8 : c2 < t)
    (h9 : ps30 = #[rawInt 32, rawInt 4, .ref c] ∨ ∀ p ∈ W, p.1 < c) (h10 : ps37 = #[rawInt 47, rawInt 4, .ref c2] ∨ ∀ p ∈ W, p.1 < c2)
def T30 (ps : Array Value) (W : List (Addr × Obj)) : Prop := ps = #[] ∨ ∃ c oc cvs ct, ps = #[rawInt 32, rawInt 4, .ref c] ∧ (c, oc) ∈ W ∧ oc.data = .fields cvs ∧ cvs[1]? = some (.str (Str.ofString "_int2digits.<locals>.inner") ct)
def T37 (ps : Array Value) (W : List (Addr × Obj)) : Prop := ps = #[] ∨ ∃ c oc cvs ct, ps = #[rawInt 47, rawInt 4, .ref c] ∧ (c, oc) ∈ W ∧ oc.data = .fields cvs ∧ cvs[1]? = some (.str (Str.ofString "_digits2int.<locals>.inner") ct)
theorem int2 (w : World) (W : List (Addr × Obj)) (ps : Array Value) (x n : Int) (tx tn : Tok) (hx : 0 ≤ x) (hx2 : x < 2 ^ 60) (hn : 0 < n) (hn2 : n ≤ 64) (hW30 : ∀ p ∈ W, p.1 ≠ 30) (ht : T30 ps W) :
    Ct w 35 [.int x tx, .int n tn] 200 ((30, tabObj ps) :: W) (Ret2 ps W x n) := by
  rcases ht with rfl | ⟨c, oc, cvs, ct, rfl, h1, h2, h3⟩
  · exact int2_miss w W x n tx tn hx hx2 hn hn2 hW30
  · exact int2_hit w W x n tx tn hx hx2 hn hn2 hW30 c oc cvs ct h1 h2 h3
theorem d2i (w : World) (W : List (Addr × Obj)) (ps : Array Value) (ql : Addr) (vs : List Value) (ns : List Int) (k : Nat) (n : Int) (tn : Tok) (hn : 0 < n) (hn2 : n ≤ 64) (hql : (ql, listOf vs.toArray k) ∈ W) (hi : IntsAre vs ns) (hlen : ns.length ≤ 128) (hnn : ∀ d ∈ ns, 0 ≤ d) (hval : val n.toNat ns < 2 ^ 60) (hW37 : ∀ p ∈ W, p.1 ≠ 37) (ht : T37 ps W) :
    Ct w 42 [.ref ql, .int n tn] 200 ((37, tabObj ps) :: W) (RetD ps W (val n.toNat ns)) := by
  rcases ht with rfl | ⟨c, oc, cvs, ct, rfl, h1, h2, h3⟩
  · exact d2i_miss w W ql vs ns k n tn hn hn2 hql hi hlen hnn hval hW37
  · exact d2i_hit w W ql vs ns k n tn hn hn2 hql hi hlen hnn hval hW37 c oc cvs ct h1 h2 h3
inductive DInv (n : Nat) (y : Int) (ds : List Int) (ql : Addr) (Wl : List (Addr × Obj)) (vb vn : Value) (rest : List Value) (m : Str → Option Value) (news : List (Addr × Obj)) : Prop
  | mk (restd done qs : List Int) (qvs : List Value) (k : Nat) (r : Int) (tr : Tok) (h1 : IntsAre rest restd) (h2 : IntsAre qvs qs) (h3 : news = (ql, listOf qvs.toArray k) :: Wl) (h4 : m (Str.ofString "b") = some vb) (h5 : m (Str.ofString "n") = some vn) (h6 : m (Str.ofString "r") = some (.int r tr)) (h7 : m (Str.ofString "q_digits") = some (.ref ql))
    (h8 : done ++ restd = ds.reverse) (h9 : 0 ≤ r) (h10 : r < y) (h11 : hor n done = y * hor n qs + r) (h12 : ∀ q ∈ qs, 0 ≤ q) (h13 : qs.length = done.length)
theorem t30_mono {ps : Array Value} {W W' : List (Addr × Obj)} (h : T30 ps W) (hs : ∀ p ∈ W, p ∈ W') : T30 ps W' := by
  rcases h with h | ⟨c, oc, cvs, ct, e, h1, h2⟩
  · exact Or.inl h
  · exact Or.inr ⟨c, oc, cvs, ct, e, hs _ h1, h2⟩
theorem t37_mono {ps : Array Value} {W W' : List (Addr × Obj)} (h : T37 ps W) (hs : ∀ p ∈ W, p ∈ W') : T37 ps W' := by
  rcases h with h | ⟨c, oc, cvs, ct, e, h1, h2⟩
  · exact Or.inl h
  · exact Or.inr ⟨c, oc, cvs, ct, e, hs _ h1, h2⟩
theorem intBits_le_20 {y : Int} (h : 0 < y) (h2 : y < 2 ^ 20) : Builtin.Int.intBits y ≤ 20 := PySem.intBits_le_iff.mpr (by omega)
theorem dmp (w : World) (W : List (Addr × Obj)) (ps30 ps37 : Array Value) (x y : Int) (tx ty : Tok) (hx : 0 ≤ x) (hx2 : x < 2 ^ 40) (hy : 0 < y) (hy2 : y < 2 ^ 20) (h30 : T30 ps30 W) (h37 : T37 ps37 W) (hW30 : ∀ p ∈ W, p.1 ≠ 30) (hW37 : ∀ p ∈ W, p.1 ≠ 37) :
    Ct w 49 [.int x tx, .int y ty] 300 ((30, tabObj ps30) :: (37, tabObj ps37) :: W) (RetQ ps30 ps37 W (Int.fdiv x y) (Int.fmod x y)) := by
  have hb : Builtin.Int.intBits y ≤ 20 := intBits_le_20 hy hy2
  have hbp := intBits_pos (x := y) (by omega) (by omega)
  unfold Ct; k_fill
  intro p loose mean mg mb dp un gd cn cs a ccd cl outer A₀ base h₀ L m s Q E B C1 C2 C3 F X N T hk hd hu hret
  refine wpAny_call ?_
  k_dflt ktr_enter
  w_strict k_steps
  unfold Stop
  k_dflt (refine' int2 _ ((37, tabObj ps37) :: W) _ _ _ _ _ ?p1 ?p2 ?p3 ?p4 ?p5 ?p6 _ _ _ _ _ _ _ _ _ _ _ _ _ _ _ _ _ _ _ _ _ _ ?k1 ?c1 ?c2 ?c3 ?k2 ?k3 ?k4 ?k5 ?kK ?kd ?ku ?_; (case k1 => k_asm); (case k2 => k_asm); (case k3 => k_asm); (case k4 => k_asm); (case k5 => k_asm); (case kK => first | exact rfl | assumption))
  (case p1 => omega)
  (case p2 => omega)
  (case p3 => omega)
  (case p4 => omega)
  (case p5 => exact List.forall_mem_cons.mpr ⟨by show (37 : Nat) ≠ 30; decide, hW30⟩)
  (case p6 => exact t30_mono h30 (fun q hq => List.Mem.tail _ hq))
  (case c1 => assumption)
  (case c2 => assumption)
  (case c3 => assumption)
  (case kd => dsimp only [ktrTop]; omega)
  (case ku => dsimp only [ktrTop]; omega)
  rintro r9 news9 h9 tk9 F9 N9 ⟨dl, vs, ds, c, oc, cvs, ct, rfl, rfl, hI9, hv9, hd9, hl9, hc1, hc2, ho1, ho2, ho3, ho4, ho5⟩
  have hWd : AllLt dl W := allLt_of fun p hp => ho1 p (.tail _ hp)
  have h37d : (37 : Nat) < dl := ltN (ho1 (37, tabObj ps37) (.head _))
  dsimp only
  w_strict k_steps
  unfold Stop
  ((k_dflt (refine' iter_revUnr ?kh ?kF ?kN ?kO ?km ?kc ?kd ?_; (case kh => rfl); (case kF => k_asm); (case kN => k_asm); (case km => k_mem); (case kc => rfl); (case kd => rfl); (case kO => exact offI_of (by k_all)))))
  w_strict k_steps
  refine rev_start (DInv (Builtin.Int.intBits y) y ds _ _ _ _) ⟨ds.reverse, [], [], [], 0, 0, _, ints_reverse hI9, .nil, rfl, rfl, rfl, rfl, rfl, rfl, Int.le_refl _, hy, by simp [hor, val], (fun _ h => nomatch h), rfl⟩ ?step ?fin
  case step =>
    rintro v r m1 news1 it h1 tk1 ⟨restd, done, qs, qvs, k1, rr, tr, hIr, hIq, rfl, hmb, hmn, hmr, hmq, hdone, hr0, hry, hH, hqn, hql⟩ hit F1 N1
    cases hIr with
    | @cons d td _ _ hIr =>
    have hdm : d ∈ ds := List.mem_reverse.mp (hdone ▸ List.mem_append_right _ (.head _))
    have hdb := hd9 d hdm
    have hlen := congrArg List.length hdone
    simp only [List.length_append, List.length_cons, List.length_reverse] at hlen
    have hlq := hIq.length
    have hrb := shl_bd hr0 (by omega : rr < 2 ^ 20) hb
    w_strict k_steps
    unfold Stop
    k_dflt (refine' div2n1n _ _ _ _ _ _ _ _ ?p1 ?p2 ?p3 ?p4 ?p5 _ _ _ _ _ _ _ _ _ _ _ _ _ _ _ _ _ _ _ _ _ _ ?k1 ?c1 ?c2 ?c3 ?k2 ?k3 ?k4 ?k5 ?kK ?kd ?ku ?_; (case k1 => k_asm); (case k2 => k_asm); (case k3 => k_asm); (case k4 => k_asm); (case k5 => k_asm); (case kK => first | exact rfl | assumption))
    (case p1 => omega)
    (case p2 => omega)
    (case p3 => omega)
    (case p4 => omega)
    (case p5 => omega)
    (case c1 => assumption)
    (case c2 => assumption)
    (case c3 => assumption)
    (case kd => dsimp only [ktrTop]; omega)
    (case ku => dsimp only [ktrTop]; omega)
    rintro r9 news9 h9 tk9 F9 N9 ⟨t9, t91, t92, rfl, rfl, ho9⟩
    dsimp only
    k_lt ho9
    w_strict k_steps
    (with_reducible rename News _ _ _ _ => N7)
    (try simp only [List.push_toArray] at N7)
    unfold Stop
    have hstep := hor_step (d := d) hy hH
    (with_reducible rename Fr _ _ _ _ => F7)
    refine UnrEnd.intro F7 N7 _ (fun q hq => List.Mem.tail _ hq) (by k_all) ⟨.tail _ (.head _), ⟨_, done ++ [d], qs ++ [_], qvs ++ [_], _, _, _, hIr, ints_append hIq (.cons _ _ .nil), rfl, hmb, hmn, rfl, hmq, by simpa using hdone, Int.fmod_nonneg_of_pos _ hy, Int.fmod_lt_of_pos _ hy, hstep, ?_, by simp [hql]⟩⟩
    intro q hq
    rcases List.mem_append.mp hq with hq | hq
    · exact hqn q hq
    · have := List.mem_singleton.mp hq
      subst this
      exact Int.fdiv_nonneg (by (try simp only [Int.toNat_natCast] at hrb ⊢); omega) (by omega)
  case fin =>
    rintro m1 news1 h1 tk1 ⟨restd, done, qs, qvs, k1, rr, tr, hIr, hIq, rfl, hmb, hmn, hmr, hmq, hdone, hr0, hry, hH, hqn, hql⟩ F1 N1
    cases hIr
    rw [List.append_nil] at hdone
    have hlen := congrArg List.length hdone
    rw [List.length_reverse] at hlen
    have hlq := hIq.length
    subst hdone
    rw [Int.toNat_natCast] at hv9
    obtain ⟨hfin, hfin2⟩ := hor_fin hy hr0 hry hv9 hH
    have hfb := fdiv_le hy hx
    subst hfin2
    have hc37 : c ≠ 37 := by
      rcases ho5 with e | e
      · rcases h30 with e0 | ⟨c0, oc0, _, _, e0, hm0, _⟩
        · rw [e0] at e; simp at e
        · rw [e0] at e; simp [rawInt] at e; subst e; exact hW37 _ hm0
      · have := ltN (e (37, _) (.head _)); refine neN ?_; (try dsimp only at this); omega
    have hc37' := neN hc37
    w_strict k_steps
    unfold Stop
    ((k_dflt (refine' revInts ?kF ?kN ?kz ?kU ?_; (case kF => k_asm); (case kN => k_asm); (case kU => k_upd); (case kz => omega))); intro h' F' N')
    w_strict k_steps
    (with_reducible rename News _ _ _ _ => N7)
    have N6 := news_pull4 N7
    unfold Stop
    k_dflt (refine' d2i _ _ _ _ _ _ _ _ _ ?p1 ?p2 ?p3 ?p4 ?p5 ?p6 ?p7 ?p8 ?p9 _ _ _ _ _ _ _ _ _ _ _ _ _ _ _ _ _ _ _ _ _ _ ?k1 ?c1 ?c2 ?c3 ?k2 ?k3 ?k4 ?k5 ?kK ?kd ?ku ?_; (case k1 => k_asm); (case k2 => k_asm); (case k3 => k_asm); (case k4 => k_asm); (case k5 => k_asm); (case kK => first | exact rfl | assumption))
    (case p1 => omega)
    (case p2 => omega)
    (case p3 => exact .head _)
    (case p4 => exact ints_reverse hIq)
    (case p5 => rw [List.length_reverse]; omega)
    (case p6 => exact fun q hq => hqn q (List.mem_reverse.mp hq))
    (case p7 => rw [Int.toNat_natCast]; omega)
    (case p8 => repeat' (first | exact hW37 | (refine List.forall_mem_cons.mpr ⟨?_, ?_⟩) | (refine neN ?_; (try dsimp only); omega)))
    (case p9 => exact t37_mono h37 (fun q hq => .tail _ (.tail _ (.tail _ (.tail _ hq)))))
    (case c1 => assumption)
    (case c2 => assumption)
    (case c3 => assumption)
    (case kd => dsimp only [ktrTop]; omega)
    (case ku => dsimp only [ktrTop]; omega)
    rintro r9 news9 h9 tk9 F9 N9 ⟨t9, c2, oc2, cvs2, ct2, rfl, rfl, hd1, hd2, hd3, hd4⟩
    rw [Int.toNat_natCast, hfin]
    dsimp only
    w_strict k_steps
    (with_reducible rename News _ _ _ _ => N5)
    refine hret _ _ _ _ (by k_asm) (drop5 (a := (_, pairObj _ _ _ _)) (b := (30, _)) (c := (37, _)) (d := (c, oc)) (e := (c2, oc2)) N5 (by k_mem) (by k_mem) (by k_mem) (by k_mem) (by k_mem) (by intro q hq; repeat (first | exact hq | refine List.Mem.tail _ ?_))) ⟨_, _, _, _, _, _, _, _, _, _, _, rfl, rfl, hc1, hc2, hd1, hd2, ?_, ?_, ?_, ?_, ?_, ?_⟩
    · exact fun p hp => Nat.lt_of_lt_of_le (allLt_get hWd p hp) (by omega)
    · refine ltN ?_; (try dsimp only); omega
    · refine ltN ?_; (try dsimp only); omega
    · refine ltN ?_; (try dsimp only); omega
    · exact ho5.imp id fun h p hp => h p (.tail _ hp)
    · exact hd4.imp id fun h p hp => h p (.tail _ (.tail _ (.tail _ (.tail _ hp))))
end Mine
end SecDM
section SecID
theorem Mine.offID : True := by
  w_top off
  k_with_none
  trivial
open PySem PySem.W PyProof.Rows PySem.Spec PySem.Calls
set_option maxRecDepth 100000
set_option maxHeartbeats 8000000
namespace Mine
theorem rulesID : True := by
  k_with_none
  k_with "call ref" => refine stop ?_
  trivial
theorem idm_pos (w : World) (W : List (Addr × Obj)) (ps30 ps37 : Array Value) (x y : Int) (tx ty : Tok) (hx : 0 ≤ x) (hx2 : x < 2 ^ 40) (hy : 0 < y) (hy2 : y < 2 ^ 20) (h30 : T30 ps30 W) (h37 : T37 ps37 W) (hW30 : ∀ p ∈ W, p.1 ≠ 30) (hW37 : ∀ p ∈ W, p.1 ≠ 37) :
    Ct w 56 [.int x tx, .int y ty] 310 ((30, tabObj ps30) :: (37, tabObj ps37) :: W) (RetQ ps30 ps37 W (Int.fdiv x y) (Int.fmod x y)) := by
  unfold Ct; k_fill
  intro p loose mean mg mb dp un gd cn cs a ccd cl outer A₀ base h₀ L m s Q E B C1 C2 C3 F X N T hk hd hu hret
  refine wpAny_call ?_
  k_dflt ktr_enter
  w_strict k_steps
  all_goals (try (exfalso; omega))
  unfold Stop
  k_dflt (refine' dmp _ _ _ _ _ _ _ _ ?p1 ?p2 ?p3 ?p4 ?p5 ?p6 ?p7 ?p8 _ _ _ _ _ _ _ _ _ _ _ _ _ _ _ _ _ _ _ _ _ _ ?k1 ?c1 ?c2 ?c3 ?k2 ?k3 ?k4 ?k5 ?kK ?kd ?ku ?_; (case k1 => k_asm); (case k2 => k_asm); (case k3 => k_asm); (case k4 => k_asm); (case k5 => k_asm); (case kK => first | exact rfl | assumption))
  (case p1 => first | assumption | omega)
  (case p2 => first | assumption | omega)
  (case p3 => first | assumption | omega)
  (case p4 => first | assumption | omega)
  (case p5 => first | assumption | omega)
  (case p6 => first | assumption | omega)
  (case p7 => first | assumption | omega)
  (case p8 => first | assumption | omega)
  (case c1 => assumption)
  (case c2 => assumption)
  (case c3 => assumption)
  (case kd => dsimp only [ktrTop]; omega)
  (case ku => dsimp only [ktrTop]; omega)
  rintro r9 news9 h9 tk9 F9 N9 hR
  dsimp only
  w_strict k_steps
  exact hret _ _ _ _ (by k_asm) (by k_asm) hR
end Mine
end SecID
section SecSz
theorem Mine.offSz : True := by
  w_top off
  k_with_none
  trivial
open PySem PySem.W PyProof.Rows PySem.Spec PySem.Calls
set_option maxRecDepth 100000
set_option maxHeartbeats 8000000
namespace Mine
section
variable {prog : Program} {w : World} {A A₀ : Around} {E : Value → Shared → Prop} {s : Shared} {h₀ base : Heap} {L l a b D : Addr} {m : Str → Option Value} {news : List (Addr × Obj)} {n : Nat} {outer : List Env} {env : Env}
theorem listEndZ {it l : Addr} {i : Nat} {items : Array Value} {Q : Option Value → Shared → Prop} (hh : A.handled = none)
    (hit : s.heap.IsListIter it l i) (hl : s.heap.IsList l items) (hx : items[i]? = none)
    (hQ : ∀ h', Heap.ExtBut it s.heap h' → h'.objs.size = s.heap.objs.size + 2 → Q none { s with heap := h' }) : wpAny (model prog w) A (pyNext (.ref it)) Q E s := by
  obtain ⟨o, ho, _, hd⟩ := id hit
  obtain ⟨ol, hol, _, nl, hdl⟩ := hl
  unfold pyNext
  refine wpAny_bind (wpAny_attempt (wpAny_callSpecial?_slot (name := Str.ofString "__next__") hit.typeIs slot_listiter_next
    (wpAny_call_entry slot_listiter_next hit.typeIs entry_listiter_next ?_ (args_listiter_next _))))
  show wpAny _ _ (field (.ref it) 0 >>= _) _ _ s
  refine wpAny_bind (wpAny_field ho hd (x := .ref l) rfl ?_)
  show wpAny _ _ (if (Value.ref l == Value.none) = true then _ else _) _ _ s
  rw [if_neg (show ¬ ((Value.ref l == Value.none) = true) from Bool.false_ne_true)]
  show wpAny _ _ (field (.ref it) 1 >>= _) _ _ s
  refine wpAny_bind (wpAny_field ho hd (x := .int i 0) rfl ?_)
  show wpAny _ _ (seqItems? (.ref l) >>= _) _ _ s
  refine wpAny_bind (wpAny_seqItems hol hdl ?_)
  simp only [Int.toNat_natCast, hx]
  refine wpAny_bind (wpAny_rule (wpAny_bind (wpAny_setField ho hd (by simp) ?_)))
  show wpAny _ _ (newExc (.type "StopIteration") [] >>= _) _ _ _
  refine wpAny_bind ?_
  simp only [newExc, newTuple]
  refine wpAny_bind (wpAny_newObj_type ?_ (by size_fits))
  refine wpAny_bind (m := firstArgMember _ _) (wpAny_of_eq (a := Value.none) (by first | rfl | (simp only [firstArgMember]; rfl)) ?_)
  refine wpAny_newObj_type ?_ (by size_fits)
  simp only [raiseNew]
  refine wpAny_bind (wpAny_handled ?_)
  rw [show A.in1.handled = none from hh]
  refine wpAny_bind (wpAny_pure (wpAny_throw ?_))
  refine wpAny_bind (wpAny_isInstance (T := "StopIteration") (b := true) ⟨_, Heap.get?_push_size _ rfl, rfl⟩ isSubtype_stop ?_)
  refine wpAny_pure (hQ _ (((Heap.SameBut.update ..).extBut.push _).push _) ?_)
  rw [Heap.size_push, Heap.size_push, (Heap.SameBut.update (a := it) ..).1]
theorem newListZ {vs : List Value} {Q : Value → Shared → Prop} (F : Fr h₀ L s.heap m) (N : News h₀ L s.heap news) (Z : s.heap.objs.size = n)
    (h : ∀ l h', Fr h₀ L h' m → News h₀ L h' ((l, listOf vs.toArray 0) :: news) → (∀ p ∈ news, p.1 < l) → h'.objs.size = n + 1 → Q (.ref l) { s with heap := h' }) (hsz : vs.length ≤ sizeLine := by size_fits) :
    wpAny (model prog w) A (newList vs) Q E s :=
  wpAny_newObj_type (h _ _ (F.push _) (News.push F N _) (fun p hp => Heap.lt_size (N p hp).1) (by rw [Heap.size_push, Z])) (by show vs.toArray.size ≤ sizeLine; rw [List.size_toArray]; exact hsz)
theorem storeZ {cn : Str} {cs : Scope} {ccd : Value} {cl : List (Str × Addr)} {x : Str} {v : Value} {Q : Unit → Shared → Prop} (F : Fr h₀ L s.heap m) (N : News h₀ L s.heap news) (Z : s.heap.objs.size = n)
    (h : ∀ h', Fr h₀ L h' (fun y => if y = x then some v else m y) → News h₀ L h' news → h'.objs.size = n → Q () { s with heap := h', toks := s.toks + 1 })
    (hk : cs.kind = .function := by rfl) (hx : (envX cn cs L a ccd cl).kindOf x = some .local := by rfl) : wpAny (model prog w) A (storeName (envX cn cs L a ccd cl) x v) Q E s :=
  wpAny_storeName_local hx F.ns (fun h' hn hs => h h' (F.set hn hs) (N.set hs) (hs.1.trans Z)) (by show (cs.kind == .class || (cs.kind == .module && L != mainGlobals)) = false; rw [hk]; rfl)
theorem sliceZ {value slice : PySem.Expr} {items : Array Value} {vl vu : Value} {lo hi : Option Int} {zs : List Value} {Q : Value → Shared → Prop}
    (F : Fr h₀ L s.heap m) (N : News h₀ L s.heap news) (Z : s.heap.objs.size = n) (hl : s.heap.IsList l items) (pl : IsPart vl lo) (pu : IsPart vu hi) (e : (slicePick items lo hi none).toList = zs)
    (h : ∀ D h', Fr h₀ L h' m → News h₀ L h' ((D, listOf zs.toArray 0) :: news) → (∀ p ∈ news, p.1 < D) → h'.objs.size = n + 2 → Q (.ref D) { s with heap := h' })
    (hs : subscripted slice false (.ref l) (.ref s.heap.objs.size) = operate [.ref s.heap.objs.size, .ref l] (getItem (.ref l) (.ref s.heap.objs.size)))
    (ht : ∀ r, letTemporaryGo value (.ref l) r = pure ()) (hsz : items.size ≤ sizeLine) :
    wpAny (model prog w) A (subscriptTail value slice (.ref l) (.ref s.heap.objs.size)) Q E { s with heap := s.heap.push { cls := .type "slice", data := .fields #[vl, vu, .none] } } := by
  refine subscriptTail_ops (Heap.IsList.typeIs (s := { s with heap := s.heap.push { cls := .type "slice", data := .fields #[vl, vu, .none] } }) (hl.push _)) list_getitem_lookup
    (wpAny_getItem_list_slice (hl.push _) (Heap.IsSliceOf.new ..) pl pu .none (by simp) ?_ hsz) hs ht
  have ez : slicePick items lo hi none = zs.toArray := by rw [← e, Array.toArray_toList]
  have N1 := News.push (F.push { cls := .type "slice", data := .fields #[vl, vu, .none] }) (N.grown fun _ _ e => Heap.get?_push_of_some _ e) { cls := .type "list", data := .seq (slicePick items lo hi none) }
  rw [ez] at N1 ⊢
  exact h _ _ ((F.push _).push _) N1 (fun p hp => by rw [Heap.size_push]; exact Nat.lt_succ_of_lt (Heap.lt_size (N p hp).1)) (by rw [Heap.size_push, Heap.size_push, Z])
theorem addZ {vs ws zs : List Value} {its its2 : Array Value} {Q : Value → Shared → Prop} (F : Fr h₀ L s.heap m) (N : News h₀ L s.heap news) (Z : s.heap.objs.size = n) (hl : s.heap.IsList l its) (hb : s.heap.IsList b its2) (ez : its.toList ++ its2.toList = zs)
    (h : ∀ D h', Fr h₀ L h' m → News h₀ L h' ((D, listOf zs.toArray 0) :: news) → (∀ p ∈ news, p.1 < D) → h'.objs.size = n + 1 → Q (.ref D) { s with heap := h' })
    (hsz : its.toList.length + its2.toList.length ≤ sizeLine) : wpAny (model prog w) A (binaryOp .Add (.ref l) (.ref b)) Q E s := by
  obtain ⟨⟨cls, dd, data, sl⟩, ho, hc, n1, hd⟩ := id hl
  obtain ⟨⟨cls2, dd2, data2, sl2⟩, ho2, hc2, n2, hd2⟩ := id hb
  simp only at hc hd hc2 hd2
  subst hc hd hc2 hd2
  have e : its ++ its2 = zs.toArray := by rw [← ez]; simp
  refine concat_meets ⟨_, ho, rfl⟩ ⟨_, ho2, rfl⟩ noFill_list_add seq_list_add PySem.F.slot_list_add PySem.F.entry_list_add (PySem.F.args_list_add_2 _ _) (list_addW l b its its2 n1 n2 dd dd2 sl sl2 (by simpa using hsz)) ⟨ho, ho2, ?_⟩
  rw [e]
  exact h _ _ (F.push _) (News.push F N _) (fun p hp => Heap.lt_size (N p hp).1) (by rw [Heap.size_push, Z])
theorem codeDefZ {R : Result → Shared → Prop} {K : Frag} {p : Program} {loose : List Str} {mean : ExcName → Option Value} {mg mb : Str → Option Value} {name qual : Str} {params : Arguments} {body : List Stmt} {scope : Scope} {dV kV doc pm cdv ct oc : Value} {an od : Option Addr} {osl : Array (Option Value)} {f : Addr} {args : Args} {binds : List (Str × Value)}
    (B : Below A₀ base outer h₀) (F : Fr h₀ L s.heap m) (X₀ : K.In h₀) (N : News h₀ L s.heap news) (T : Top p loose mean mg mb h₀) (hA : A.frames = some (env :: outer)) (hf : env.frame = some L) (hke : env.scope.kind = .function)
    (Z : s.heap.objs.size = n)
    (ho : K.lookup f = some ⟨oc, od, .func (fnOf name qual params body scope dV kV doc pm an cdv ct), osl⟩) (hcd : codeIn K cdv qual = true) (hroom : A.depth < recursionLimit)
    (hbind : BindsTo s (fnOf name qual params body scope dV kV doc pm an cdv ct) args binds) (hloc : ∀ y ∈ binds, scope.names.lookup y.1 = some .local)
    (h : ∀ g L' h₁, Fr h₀ L g m → Fr g L' h₁ (fun y => binds.reverse.lookup y) → News g L' h₁ news → Below A base (env :: outer) g → K.In g → Top p loose mean mg mb g → h₁.objs.size = n + 1 →
      wpAny (model prog w) (A.deeper (envOf qual scope L' f cdv)) (execs body (envOf qual scope L' f cdv))
        (fun fl s' => LeaveK h₀ L m g R (match fl with | .ret v => v | _ => .none) s')
        (fun e s' => wpAny (model prog w) (A.deeper (envOf qual scope L' f cdv)) (leaving (envOf qual scope L' f cdv) e) (fun _ s'' => R (.error e) s'') (fun e' s'' => R (.error e') s'') s')
        { s with heap := h₁, toks := s.toks + binds.length })
    (hco : scope.isCoroutine = false) (hgen : scope.isGenerator = false) (hk : scope.kind = .function)
    (hcell : ∀ x ∈ scope.names, x.2 ≠ .cell) : codeAny (model prog w) A (.call (.ref f) args) R s := by
  obtain ⟨FG, BG, st, lv⟩ := groundX (R := R) B F N hA hf hke
  have X := X₀.keeps F.keep
  refine codeAny_call_function hroom (X _ _ ho) rfl hco hgen rfl (codeRec_of X hcd) (hbind _ _ _ _ ?_)
  refine wpAny_newFunctionEnv hcell hloc (fun h₁ hns hsb => ⟨(T.nolimit.keeps F.keep).fresh _ hsb, codeAny_func ?_⟩) hk
  have hk₁ : ∀ b o, s.heap.get? b = some o → h₁.get? b = some o := fun b o e => hsb.extBut b o (Nat.ne_of_lt (Heap.lt_size e)) (Heap.get?_push_of_some _ e)
  exact wpAny_mono (h _ s.heap.objs.size h₁ FG ⟨hns, fun b o e => hk₁ b o (of_hideAll _ e), Nat.le_of_eq (hideAll_size _ _)⟩
    (fun p hp => ⟨hk₁ _ _ (N p hp).1, Nat.ne_of_lt (Heap.lt_size (N p hp).1), hideAll_none _ (List.mem_map_of_mem hp)⟩) BG (X₀.keeps st) (T.keeps st) (by rw [hsb.1, Heap.size_push, Z])) (fun fl s' hl => lv _ _ hl) fun _ _ y => y
theorem pushCells_size : ∀ (names : List (Str × NameKind)) (h : Heap), (pushCells h names).objs.size = h.objs.size + (names.filter fun y => y.2 == .cell).length
  | [], h => rfl
  | (x, k) :: r, h => by
    unfold pushCells
    by_cases hk : (k == .cell) = true
    · rw [if_pos hk, pushCells_size r, Heap.size_push, List.filter_cons, if_pos hk, List.length_cons]; omega
    · rw [if_neg hk, pushCells_size r, List.filter_cons, if_neg hk]
theorem newEnvZ {scope : Scope} {globals : Addr} {x : Str} {v : Value} {qual : Str} {func : Option Addr} {code : Value} {builtins : Addr} {Q : Env → Shared → Prop} {M : Model}
    (hk : scope.kind = .function) (hl : scope.names.lookup x = some .local)
    (hQ : ∀ env, env = newEnv scope s.heap.objs.size globals (cellsFrom (s.heap.objs.size + 1) scope.names []) qual func code none builtins →
      ∀ s', InCallC s env.locals (bindL env.kindOf [(x, v)] fun _ => none) env.cells (bindC env.kindOf [(x, v)] fun _ => none) s' → s'.heap.objs.size = s.heap.objs.size + 1 + (scope.names.filter fun y => y.2 == .cell).length → Q env s') :
    wpAny M A (newFunctionEnv scope globals [] [(x, v)] qual func code none builtins) Q E s := by
  simp only [newFunctionEnv, Option.isSome_none, Bool.false_eq_true, if_false]
  refine wpAny_bind (wpAny_alloc ?_)
  refine wpAny_bind (wpAny_layCells _ (fun name kind cells => by cases hkc : kind == NameKind.cell <;> simp [hkc]) _ _ _ _ ?_)
  have ok := cellsFrom_ok scope.names (s.heap.push { cls := .type "frame", data := .dict #[] }) (s.heap.objs.size + 1) [] ⟨fun _ _ hm => (nomatch hm), List.Pairwise.nil⟩ (by rw [Heap.size_push]; exact Nat.le_refl _)
  rw [Heap.size_push] at ok
  rw [show ({ s with heap := s.heap.push { cls := .type "frame", data := .dict #[] } } : Shared).heap.objs.size = s.heap.objs.size + 1 from Heap.size_push ..]
  have hz := pushCells_size scope.names (s.heap.push { cls := .type "frame", data := .dict #[] })
  rw [Heap.size_push] at hz
  have x0 : InCallC s s.heap.objs.size (fun _ => none) (cellsFrom (s.heap.objs.size + 1) scope.names []) (fun _ => none) { s with heap := pushCells (s.heap.push { cls := .type "frame", data := .dict #[] }) scope.names } :=
    ⟨⟨⟨_, _, rfl⟩, (Heap.Ns.new s.heap (.type "frame")).keeps (pushCells_keeps _ _), fun b o e => pushCells_keeps _ _ b o (Heap.get?_push_of_some _ e), Nat.le_refl _⟩,
      fun n c hc => (ok.empty n c (mem_of_lookup hc)).1, ok.apart, fun n c hm => (ok.empty n c hm).2⟩
  refine wpAny_bind ?_
  rw [List.forIn_cons]
  refine wpAny_bind (wpAny_bind (wpAny_storeName_local (env := newEnv scope s.heap.objs.size globals (cellsFrom (s.heap.objs.size + 1) scope.names []) qual func code none builtins) hl x0.toInCall.ns (fun h' hn' hs' => wpAny_pure ?_) ?_))
  show wpAny _ _ (forIn [] _ _) _ _ _
  rw [List.forIn_nil]
  refine wpAny_pure (wpAny_pure (hQ _ rfl _ ?_ ?_))
  · have e1 : ∀ ev : Env, ev.kindOf x = some .local → bindL ev.kindOf [(x, v)] (fun _ => none) = fun y => if y = x then some v else none := fun ev e => by simp [bindL, e]
    have e2 : ∀ ev : Env, ev.kindOf x = some .local → bindC ev.kindOf [(x, v)] (fun _ => none) = fun _ => none := fun ev e => by simp [bindC, e]
    rw [e1 (newEnv scope s.heap.objs.size globals (cellsFrom (s.heap.objs.size + 1) scope.names []) qual func code none builtins) hl, e2 (newEnv scope s.heap.objs.size globals (cellsFrom (s.heap.objs.size + 1) scope.names []) qual func code none builtins) hl]
    refine ⟨⟨⟨h', _, rfl⟩, hn', fun b o e => ?_, Nat.le_refl _⟩, fun k c hc => ?_, x0.apart, x0.above⟩
    · exact hs'.extBut b o (Nat.ne_of_lt (Heap.lt_size e)) (x0.toInCall.keep b o e)
    · exact (x0.cell k c hc).sameBut hs' (Nat.ne_of_gt (x0.above k c (mem_of_lookup hc)))
  · exact hs'.1.trans hz
  · show (scope.kind == .class || (scope.kind == .module && s.heap.objs.size != globals)) = false
    rw [hk]; rfl
theorem codeDefCZ {R : Result → Shared → Prop} {K : Frag} {p : Program} {loose : List Str} {mean : ExcName → Option Value} {mg mb : Str → Option Value} {name qual : Str} {params : Arguments} {body : List Stmt} {scope : Scope} {dV kV doc pm cdv ct oc : Value} {an od : Option Addr} {osl : Array (Option Value)} {f : Addr} {args : Args} {x : Str} {v : Value} {c : Nat}
    (B : Below A₀ base outer h₀) (F : Fr h₀ L s.heap m) (X₀ : K.In h₀) (N : News h₀ L s.heap news) (T : Top p loose mean mg mb h₀) (hA : A.frames = some (env :: outer)) (hf : env.frame = some L) (hke : env.scope.kind = .function)
    (Z : s.heap.objs.size = n)
    (ho : K.lookup f = some ⟨oc, od, .func (fnOf name qual params body scope dV kV doc pm an cdv ct), osl⟩) (hcd : codeIn K cdv qual = true) (hroom : A.depth < recursionLimit)
    (hbind : BindsTo s (fnOf name qual params body scope dV kV doc pm an cdv ct) args [(x, v)]) (hl : scope.names.lookup x = some .local)
    (hnd : ((cellsFrom 0 scope.names []).map (·.1)).Nodup) (hc : 1 + (scope.names.filter fun y => y.2 == .cell).length = c)
    (h : ∀ g L' h₁ tk cells, Fr h₀ L g m → Fr g L' h₁ (bindL (envOfC qual scope L' f cdv).kindOf [(x, v)] fun _ => none) → News g L' h₁ (cells ++ news) →
      CellsAre (bindC (envOfC qual scope L' f cdv).kindOf [(x, v)] fun _ => none) (cellsFrom (L' + 1) scope.names []) cells → Below A base (env :: outer) g → K.In g → Top p loose mean mg mb g → (∀ p ∈ news, p.1 < L') → h₁.objs.size = n + c →
      wpAny (model prog w) (A.deeper (envOfC qual scope L' f cdv)) (execs body (envOfC qual scope L' f cdv))
        (fun fl s' => LeaveK h₀ L m g R (match fl with | .ret v => v | _ => .none) s')
        (fun e s' => wpAny (model prog w) (A.deeper (envOfC qual scope L' f cdv)) (leaving (envOfC qual scope L' f cdv) e) (fun _ s'' => R (.error e) s'') (fun e' s'' => R (.error e') s'') s')
        { s with heap := h₁, toks := tk })
    (hco : scope.isCoroutine = false) (hgen : scope.isGenerator = false) (hk : scope.kind = .function) : codeAny (model prog w) A (.call (.ref f) args) R s := by
  obtain ⟨FG, BG, st, lv⟩ := groundX (R := R) B F N hA hf hke
  have X := X₀.keeps F.keep
  refine codeAny_call_function hroom (X _ _ ho) rfl hco hgen rfl (codeRec_of X hcd) (hbind _ _ _ _ ?_)
  refine newEnvZ hk hl fun env' he s' y hz => ?_
  subst he
  refine ⟨(T.nolimit.keeps F.keep).keeps y.toInCall.keep, codeAny_func ?_⟩
  obtain ⟨h₁, tk, rfl, _⟩ := y.done
  have hk₁ := y.toInCall.keep
  obtain ⟨cells, NC, Y⟩ := Cl.news (h₀ := s.heap) (Nat.le_refl _) fun n c hm => ⟨y.cell n c (lookup_of_mem_nodup (cellsFrom_names scope.names 0 (s.heap.objs.size + 1) [] [] rfl ▸ hnd) hm), y.above n c hm⟩
  refine wpAny_mono (h _ s.heap.objs.size h₁ tk cells FG ⟨y.toInCall.ns, fun b o e => hk₁ b o (of_hideAll _ e), Nat.le_of_eq (hideAll_size _ _)⟩ (fun p hp => ?_) Y BG (X₀.keeps st) (T.keeps st) (fun p hp => Heap.lt_size (N p hp).1) (by rw [← hc, ← Z, ← Nat.add_assoc]; exact hz)) (fun fl s' hl => lv _ _ hl) fun _ _ y => y
  rcases List.mem_append.mp hp with hp | hp
  · refine ⟨(NC p hp).1, (NC p hp).2.1, ?_⟩
    cases q : (hideAll s.heap (news.map (·.1))).get? p.1 with
    | none => rfl
    | some o => have := of_hideAll _ q; rw [(NC p hp).2.2] at this; cases this
  · exact ⟨hk₁ _ _ (N p hp).1, Nat.ne_of_lt (Heap.lt_size (N p hp).1), hideAll_none _ (List.mem_map_of_mem hp)⟩
end
end Mine
end SecSz
section SecSc
theorem Mine.offSc : True := by
  w_top off
  k_with_none
  trivial
open PySem PySem.W PyProof.Rows PySem.Spec PySem.Calls PyProof.Rows.LCg
set_option maxRecDepth 100000
set_option maxHeartbeats 8000000
namespace Mine
structure WZ (prog : Program) (w : World) (A : Around) (I : Addr) (fp : List Addr) (n : Nat) (P : Nat → Value → Prop) (St : Nat → Heap → Prop) : Prop where
  own : I ∈ fp
  frame : ∀ i (h h' : Heap), St i h → (∀ b ∈ fp, ∀ o, h.get? b = some o → h'.get? b = some o) → St i h'
  item : ∀ i (s : Shared) (Q : Option Value → Shared → Prop) (E : Value → Shared → Prop), i < n → St i s.heap →
    (∀ v h' tk, P i v → St (i + 1) h' → h'.objs.size = s.heap.objs.size → Heap.ExtBut I s.heap h' → Q (some v) { s with heap := h', toks := tk }) → wpAny (model prog w) A (pyNext (.ref I)) Q E s
  done : ∀ (s : Shared) (Q : Option Value → Shared → Prop) (E : Value → Shared → Prop), St n s.heap →
    (∀ h', Heap.ExtBut I s.heap h' → h'.objs.size = s.heap.objs.size + 2 → Q none { s with heap := h' }) → wpAny (model prog w) A (pyNext (.ref I)) Q E s
  self : ∀ i (s : Shared) (Q : Value → Shared → Prop) (E : Value → Shared → Prop), St i s.heap → Q (.ref I) s → wpAny (model prog w) A (pyIter (.ref I)) Q E s
theorem WZ.list {prog : Program} {w : World} {A : Around} (hh : A.handled = none) (I ax : Addr) (hne : ax ≠ I) (items : Array Value) :
    WZ prog w A I [I, ax] items.size (fun i v => items[i]? = some v) (fun i h => h.IsListIter I ax i ∧ h.IsList ax items) where
  own := List.mem_cons_self
  frame := fun _ _ _ st hk => ⟨st.1.at fun o e => hk I (by simp) o e, st.2.at fun o e => hk ax (by simp) o e⟩
  item := fun i s Q E hi st hQ => by
    refine wpAny_pyNext_list_item st.1 st.2 (x := items[i]) (by simp [hi]) fun h' hit' hs' => ?_
    exact hQ _ h' s.toks (by simp [hi]) ⟨hit', st.2.extBut hs'.extBut hne⟩ hs'.1 hs'.extBut
  done := fun s Q E st hQ => listEndZ hh st.1 st.2 (by simp) fun h' he' hz => hQ h' he' hz
  self := fun _ _ _ _ st hQ => wpAny_pyIter_listiter st.1 hQ
def EndZ (P : Nat → Value → Shared → Prop) (y : Value) (s₂ : Shared) : Prop := ∃ n', s₂.heap.objs.size = n' ∧ P n' y s₂
theorem EndZ.intro {P : Nat → Value → Shared → Prop} {y : Value} {s₂ : Shared} {n : Nat} (Z : s₂.heap.objs.size = n) (h : P n y s₂) : EndZ P y s₂ := ⟨n, Z, h⟩
def RestZ (prog : Program) (w : World) (A : Around) (h₀ : Heap) (L : Addr) (m : Str → Option Value) (env : Env) (elt : Expr) (x : Str) (scope : Scope) (cl : List (Str × Addr)) (s : Shared) (S : List (Addr × Obj) → Prop) (P : Nat → Value → Prop)
    (Fin : Nat → List Value → List (Addr × Obj) → Prop) : Nat → Nat → Nat → List Value → List (Addr × Obj) → Prop
  | 0, n, _, ys, news => Fin n ys news
  | k + 1, n, i, ys, news => ∀ v I oI C oC D m₂ h tk (E' : Value → Shared → Prop), P i v → NsObj oC m₂ → m₂ x = some v → Fr h₀ L h m → News h₀ L h ((I, oI) :: (C, oC) :: (D, lst ys) :: news) → Off3 I C D news → ((@Ne Nat I C) ∧ (@Ne Nat I D) ∧ (@Ne Nat C D)) → h.objs.size = n →
      wpAny (model prog w) A (eval elt (compEnvC scope cl C env)) (EndZ fun n' => CompEnd h₀ L m { s with heap := h, toks := tk } I oI C oC D (lst ys) S (fun y news' => RestZ prog w A h₀ L m env elt x scope cl s S P Fin k n' (i + 1) (ys ++ [y]) news')) E' { s with heap := h, toks := tk }
section
variable {prog : Program} {w : World} {A : Around} {E : Value → Shared → Prop} {s : Shared} {h₀ : Heap} {L : Addr} {m : Str → Option Value} {env : Env}
theorem RestZ.zero {elt : Expr} {x : Str} {scope : Scope} {cl : List (Str × Addr)} {S : List (Addr × Obj) → Prop} {P : Nat → Value → Prop} {Fin : Nat → List Value → List (Addr × Obj) → Prop} {i n : Nat} {ys : List Value} {news : List (Addr × Obj)} (h : Fin n ys news) :
    RestZ prog w A h₀ L m env elt x scope cl s S P Fin 0 n i ys news := h
theorem RestZ.succ {elt : Expr} {x : Str} {scope : Scope} {cl : List (Str × Addr)} {S : List (Addr × Obj) → Prop} {P : Nat → Value → Prop} {Fin : Nat → List Value → List (Addr × Obj) → Prop} {k n i : Nat} {ys : List Value} {news : List (Addr × Obj)}
    (h : ∀ v I oI C oC D m₂ h tk (E' : Value → Shared → Prop), P i v → NsObj oC m₂ → m₂ x = some v → Fr h₀ L h m → News h₀ L h ((I, oI) :: (C, oC) :: (D, lst ys) :: news) → Off3 I C D news → ((@Ne Nat I C) ∧ (@Ne Nat I D) ∧ (@Ne Nat C D)) → h.objs.size = n →
      wpAny (model prog w) A (eval elt (compEnvC scope cl C env)) (EndZ fun n' => CompEnd h₀ L m { s with heap := h, toks := tk } I oI C oC D (lst ys) S (fun y news' => RestZ prog w A h₀ L m env elt x scope cl s S P Fin k n' (i + 1) (ys ++ [y]) news')) E' { s with heap := h, toks := tk }) :
    RestZ prog w A h₀ L m env elt x scope cl s S P Fin (k + 1) n i ys news := h
theorem blockZ {elt iter : Expr} {x : Str} {px : Pos} {scope : Scope} {cl : List (Str × Addr)} {pos : Pos} {s₂ : Shared} {I : Addr} {fp : List Addr} {n z : Nat} {P : Nat → Value → Prop} {St : Nat → Heap → Prop} {S : List (Addr × Obj) → Prop} {news : List (Addr × Obj)}
    {Fin : Nat → List Value → List (Addr × Obj) → Prop} {RR : Value → Addr → Result → Shared → Prop}
    (W : WZ prog w A I fp n P St) (hsz : n ≤ sizeLine) (hIo : ∀ i h, St i h → ∃ o, h.get? I = some o)
    (hSt : ∀ i (h h' : Heap) o nw, St i h → h.get? I = some o → h'.get? I = some o → (∀ b o, h₀.get? b = some o → h'.get? b = some o) → News h₀ L h' nw → S nw → St i h')
    (hcell : ∀ y ∈ scope.names, y.2 ≠ .cell) (hkind : scope.kind = .function) (hx : scope.names.lookup x = some .local) (hst : St 0 s₂.heap) (hfp : ∀ b ∈ fp, b < s₂.heap.objs.size)
    (F : Fr h₀ L s₂.heap m) (N : News h₀ L s₂.heap news) (hIL : L ≠ I) (hI₀ : h₀.get? I = none) (off : ∀ p ∈ news, p.1 ≠ I) (hS : S news) (Z : s₂.heap.objs.size = z)
    (R : RestZ prog w A h₀ L m env elt x scope cl s₂ S P Fin n (z + 2) 0 [] news)
    (hRR : ∀ D C h tk m' ys news' k, Fr h₀ L h m → News h₀ L h ((D, lst ys) :: news') → Off1 D news' → h.Ns C m' → h₀.get? C = none → h₀.get? D = none → C ≠ L → D ≠ L → C ≠ D → (∀ p ∈ news', p.1 ≠ C) → Fin k ys news' → h.objs.size = k + 2 → RR (.ref D) C (.ok .next) { s₂ with heap := h, toks := tk }) :
    wpAny (model prog w) A (newList []) (fun acc s₃ => wpAny (model prog w) A (newFunctionEnv scope env.globals cl [] env.qual none .none (some env)) (fun cenv s₄ =>
      codeAny (model prog w) A (.compStart (.ListComp elt [⟨.Name x px, iter, [], 0⟩] scope pos) 0 (.ref I) acc { cenv with scope := relabel scope env }) (RR acc cenv.locals) s₄) E s₃) E s₂ := by
  refine wpAny_newObj_type (wpAny_newFunctionEnv hcell (by intro y hy; simp at hy) (fun h₁ hns₁ hsb₁ => ?_) hkind)
  dsimp only at hns₁ hsb₁ ⊢
  have hz₁ : h₁.objs.size = z + 2 := by rw [hsb₁.1, Heap.size_push, Heap.size_push, Z]
  generalize hH2 : s₂.heap.push { cls := .type "list", dict := none, data := .seq ([] : List Value).toArray } = H2 at hns₁ hsb₁ ⊢
  have hC : H2.objs.size = s₂.heap.objs.size + 1 := by rw [← hH2, Heap.size_push]
  have hDC : s₂.heap.objs.size ≠ H2.objs.size := by rw [hC]; exact Nat.ne_of_lt (Nat.lt_succ_self _)
  have below : ∀ b, b < s₂.heap.objs.size → b ≠ H2.objs.size ∧ b ≠ s₂.heap.objs.size := fun b hb => ⟨by rw [hC]; exact Nat.ne_of_lt (Nat.lt_succ_of_lt hb), Nat.ne_of_lt hb⟩
  have hDf : s₂.heap.objs.size ∉ fp := fun hm => Nat.lt_irrefl _ (hfp _ hm)
  have hCf : H2.objs.size ∉ fp := fun hm => by have := hfp _ hm; rw [hC] at this; exact Nat.lt_irrefl _ (Nat.lt_of_succ_lt this)
  have hIlt : I < s₂.heap.objs.size := hfp I W.own
  have old : ∀ b o, s₂.heap.get? b = some o → h₁.get? b = some o := fun b o e => hsb₁.extBut b o (below b (Heap.lt_size e)).1 (Heap.get?_push_of_some _ (hH2 ▸ Heap.get?_push_of_some _ e))
  have hacc : h₁.get? s₂.heap.objs.size = some (lst []) := hsb₁.extBut _ _ hDC (Heap.get?_push_of_some _ (hH2 ▸ Heap.get?_push_size _ rfl))
  have hst₁ : St 0 h₁ := W.frame _ _ _ hst fun b _ o e => old b o e
  have fresh₀ : ∀ a, s₂.heap.objs.size ≤ a → h₀.get? a = none := fun a ha => by
    cases e : h₀.get? a with
    | none => rfl
    | some o' => exact absurd (Heap.lt_size (F.keep a o' e)) (Nat.not_lt.mpr ha)
  have hD₀ : h₀.get? s₂.heap.objs.size = none := fresh₀ _ (Nat.le_refl _)
  have hC₀ : h₀.get? H2.objs.size = none := fresh₀ _ (by rw [hC]; exact Nat.le_succ _)
  have hLlt : L < s₂.heap.objs.size := F.ns.lt
  have hDL : s₂.heap.objs.size ≠ L := Ne.symm (below L hLlt).2
  have hCL : H2.objs.size ≠ L := Ne.symm (below L hLlt).1
  have hCI : I ≠ H2.objs.size := (below I hIlt).1
  have hDI : I ≠ s₂.heap.objs.size := (below I hIlt).2
  have but : ∀ {h h' : Heap}, Heap.ExtBut I h h' → ∀ b o, b ∉ [I] → h.get? b = some o → h'.get? b = some o := fun hk b o hb e => hk b o (fun q => hb (by simp [q])) e
  have off₀ : Off3 I H2.objs.size s₂.heap.objs.size news := Off3.of fun p hp => ⟨off p hp, (below _ (Heap.lt_size (N p hp).1)).1, (below _ (Heap.lt_size (N p hp).1)).2⟩
  have loop : ∀ s₃ : Shared, s₃ = { s₂ with heap := h₁, toks := s₂.toks + ([] : List (Str × Value)).length } →
      codeAny (model prog w) A (.compLoop (.ListComp elt [⟨.Name x px, iter, [], 0⟩] scope pos) 0 (.ref I) (.ref s₂.heap.objs.size) (compEnvC scope cl H2.objs.size env))
        (RR (.ref s₂.heap.objs.size) H2.objs.size) s₃ := by
    rintro s₃ rfl
    refine codeAny_compLoop_tests
      (fun k s' => ∃ h' tk i ys m' news' z', s' = { s₂ with heap := h', toks := tk } ∧ i ≤ n ∧ k = n + 1 - i ∧ ys.length = i ∧ St i h' ∧ Fr h₀ L h' m ∧ h'.Ns H2.objs.size m' ∧ News h₀ L h' ((s₂.heap.objs.size, lst ys) :: news') ∧
        Off3 I H2.objs.size s₂.heap.objs.size news' ∧ S news' ∧ h'.objs.size = z' ∧ RestZ prog w A h₀ L m env elt x scope cl s₂ S P Fin (n - i) z' i ys news') ?_ (n + 1)
      ⟨h₁, _, 0, [], _, news, _, rfl, Nat.zero_le _, rfl, rfl, hst₁, F.keeps old, hns₁, fun p hp => ?_, off₀, hS, hz₁, R⟩
    · rintro k s' ⟨h', tk, i, ys, m', news', z', rfl, hi, rfl, hyl, hst', F', hn', N', off', hS', hz', R'⟩
      by_cases hlt : i < n
      · obtain ⟨j, hj⟩ : ∃ j, n - i = j + 1 := ⟨n - i - 1, by omega⟩
        rw [hj] at R'
        refine W.item i _ _ _ hlt hst' fun v h₂ tk₂ hPv hst₂ hz₂ hk₂ => ?_
        refine wpAny_assign_Name (wpAny_storeName_local (lookup_relabel_local hx) (hn'.at' fun o e => but hk₂ _ o (by simpa using Ne.symm hCI) e) (fun h₃ hn₃ hs₃ => ?_) (by simp [compEnvC, relabel, hkind]))
        refine wpAny_tests_nil ?_
        simp only [if_true]
        have hst₃ : St (i + 1) h₃ := W.frame _ _ _ hst₂ fun b hb o e => hs₃.extBut b o (fun q => hCf (by have q' : b = H2.objs.size := q; rw [← q']; exact hb)) e
        obtain ⟨oI, heI⟩ := hIo _ _ hst₃
        obtain ⟨oC, heC, hoC⟩ := ns_obj hn₃
        have F₃ : Fr h₀ L h₃ m := (fr_but F' (but hk₂) hIL hI₀).change hs₃ hCL hC₀
        have off3 := off'.mem
        have N₂ : News h₀ L h₂ ((s₂.heap.objs.size, lst ys) :: news') := news_but N' (but hk₂) fun p hp => by
          rcases List.mem_cons.mp hp with rfl | hp
          · exact Ne.symm hDI
          · exact (off3 p hp).1
        have N₃ : News h₀ L h₃ ((I, oI) :: (H2.objs.size, oC) :: (s₂.heap.objs.size, lst ys) :: news') := fun p hp => by
          rcases List.mem_cons.mp hp with rfl | hp
          · exact ⟨heI, Ne.symm hIL, hI₀⟩
          · rcases List.mem_cons.mp hp with rfl | hp
            · exact ⟨heC, hCL, hC₀⟩
            · have y := N₂ p hp
              refine ⟨hs₃.extBut _ _ ?_ y.1, y.2⟩
              rcases List.mem_cons.mp hp with rfl | hp
              · exact hDC
              · exact (off3 p hp).2.1
        refine wpAny_mono (R' v I oI H2.objs.size oC s₂.heap.objs.size _ h₃ _ _ hPv hoC (by simp) F₃ N₃ off' ⟨hCI, hDI, Ne.symm hDC⟩ (by rw [hs₃.1]; exact hz₂.trans hz')) (fun y s₄ h₄ => ?_) fun _ _ e => e
        obtain ⟨z₄, hz₄, h₄, tk₄, news₄, rfl, F₄, N₄, off₄, hS₄, R₄⟩ := h₄
        have zI := (N₄ (I, oI) List.mem_cons_self).1
        have zC := (N₄ (H2.objs.size, oC) (List.mem_cons_of_mem _ List.mem_cons_self)).1
        have zD := (N₄ (s₂.heap.objs.size, lst ys) (List.mem_cons_of_mem _ (List.mem_cons_of_mem _ List.mem_cons_self))).1
        have N₄' : News h₀ L h₄ news₄ := fun p hp => N₄ p (List.mem_cons_of_mem _ (List.mem_cons_of_mem _ (List.mem_cons_of_mem _ hp)))
        have hst₄ : St (i + 1) h₄ := hSt _ _ _ _ _ hst₃ heI zI F₄.keep N₄' hS₄
        refine append_at (hsz := by show ys.toArray.size ≤ sizeLine; rw [List.size_toArray, hyl]; exact Nat.le_trans hi hsz) zD fun h₅ hs₅ hD₅ => ?_
        have off4 := off₄.mem
        refine ⟨n + 1 - (i + 1), by omega, h₅, tk₄, i + 1, ys ++ [y], _, news₄, z₄, rfl, hlt, rfl, by rw [List.length_append, List.length_singleton, hyl], W.frame _ _ _ hst₄ fun b hb o e => hs₅.extBut b o (fun q => hDf (q ▸ hb)) e, F₄.change hs₅ hDL hD₀,
          (hoC.ns zC).sameBut hs₅ (Ne.symm hDC), fun p hp => ?_, off₄, hS₄, hs₅.1.trans hz₄, ?_⟩
        · rcases List.mem_cons.mp hp with rfl | hp
          · exact ⟨hD₅.trans (congrArg some (lst_snoc ys y)), hDL, hD₀⟩
          · exact ⟨hs₅.extBut _ _ (off4 p hp).2.2 (N₄' p hp).1, (N₄' p hp).2⟩
        · rw [show n - (i + 1) = j by omega]
          exact R₄
      · obtain rfl : i = n := Nat.le_antisymm hi (Nat.not_lt.mp hlt)
        rw [Nat.sub_self] at R'
        refine W.done _ _ _ hst' fun h₂ hk₂ hz₂ => ?_
        have off3 := off'.mem
        exact hRR _ _ h₂ _ _ ys news' z' (fr_but F' (but hk₂) hIL hI₀) (news_but N' (but hk₂) fun p hp => by
          rcases List.mem_cons.mp hp with rfl | hp
          · exact Ne.symm hDI
          · exact (off3 p hp).1) off'.one (hn'.at' fun o e => but hk₂ _ o (by simpa using Ne.symm hCI) e) hC₀ hD₀ hCL hDL (Ne.symm hDC) (fun p hp => (off3 p hp).2.1) R' (by rw [hz₂]; exact congrArg (· + 2) hz')
    · rcases List.mem_cons.mp hp with rfl | hp
      · exact ⟨hacc, hDL, hD₀⟩
      · exact ⟨old _ _ (N p hp).1, (N p hp).2⟩
  exact codeAny_compStart_list (loop _ rfl) (W.self 0 _ _ _ hst₁ (loop _ rfl))
def FinZ (h₀ : Heap) (L : Addr) (m : Str → Option Value) (s : Shared) (Q : Value → Shared → Prop) (n : Nat) (ys : List Value) (news : List (Addr × Obj)) : Prop :=
  ∀ D h tk, Fr h₀ L h m → News h₀ L h ((D, lst ys) :: news) → Off1 D news → h.objs.size = n + 2 → Q (.ref D) { s with heap := h, toks := tk }
inductive SrcZ (prog : Program) (w : World) (A : Around) (h₀ : Heap) (L : Addr) (m : Str → Option Value) (env : Env) (elt : Expr) (x : Str) (scope : Scope) (cl : List (Str × Addr)) (Fin : Shared → Nat → List Value → List (Addr × Obj) → Prop) (xv : Value) (s₁ : Shared)  : Prop
  | mk (ax : _) (its : _) (news : _) (z : _) (w1 : xv = .ref ax) (w2 : A.handled = none) (w3 : Fr h₀ L s₁.heap m) (w4 : News h₀ L s₁.heap news) (w5 : SrcAt h₀ ax its news) (w6 : its.size ≤ sizeLine) (w7 : s₁.heap.objs.size = z) (w8 : ∀ s₂ : Shared, (∃ h, s₂ = { s₁ with heap := h }) → RestZ prog w A h₀ L m env elt x scope cl s₂ (SrcAt h₀ ax its) (fun i v => its[i]? = some v) (Fin s₂) its.size (z + 3) 0 [] news)
theorem SrcZ.ledger {elt : Expr} {x : Str} {scope : Scope} {cl : List (Str × Addr)} {Fin : Shared → Nat → List Value → List (Addr × Obj) → Prop} {ax : Addr} {its : Array Value} {k z : Nat} {news : List (Addr × Obj)} {s₁ : Shared}
    (hh : A.handled = none) (F : Fr h₀ L s₁.heap m) (N : News h₀ L s₁.heap news) (Z : s₁.heap.objs.size = z) (hm : (ax, ({ cls := .type "list", data := .seq its k } : Obj)) ∈ news) (hsz : its.size ≤ sizeLine)
    (h : ∀ g, RestZ prog w A h₀ L m env elt x scope cl { s₁ with heap := g } (SrcAt h₀ ax its) (fun i v => its[i]? = some v) (Fin { s₁ with heap := g }) its.size (z + 3) 0 [] news) :
    SrcZ prog w A h₀ L m env elt x scope cl Fin (.ref ax) s₁ := ⟨ax, its, news, z, rfl, hh, F, N, .inr ⟨_, hm, rfl, _, rfl⟩, hsz, Z, fun _ ⟨g, e⟩ => e ▸ h g⟩
theorem listCompZ {elt iter : Expr} {x : Str} {px : Pos} {scope : Scope} {cl : List (Str × Addr)} {pos : Pos} {Q : Value → Shared → Prop} (F₀ : Fr h₀ L s.heap m)
    (hclos : closureFor scope env = pure cl) (hcell : ∀ y ∈ scope.names, y.2 ≠ .cell) (hkind : scope.kind = .function)
    (hnames : ∀ y ∈ scope.names, y.2 = .local → scope.names.lookup y.1 = some .local) (hx : scope.names.lookup x = some .local)
    (h : wpAny (model prog w) A (eval iter env) (SrcZ prog w A h₀ L m env elt x scope cl (fun s₂ => FinZ h₀ L m s₂ Q)) E s)
    (hs : ∀ x, foldedSetIterable iter env x = pure x := by intro _; rfl) :
    wpAny (model prog w) A (eval (.ListComp elt [⟨.Name x px, iter, [], 0⟩] scope pos) env) Q E s := by
  rw [eval_ListComp]
  refine wpAny_comprehension_free (use := none) rfl hs hclos hkind hnames (wpAny_mono h (fun xv s₁ h₁ => ?_) fun _ _ e => e)
  obtain ⟨ax, its, news, z, rfl, hh, F, N, S, hsz, Z, R⟩ := h₁
  have hl := S.list F.keep N
  have hlt : ax < s₁.heap.objs.size := by obtain ⟨_, e, _⟩ := hl; exact Heap.lt_size e
  refine wpAny_pyIter_list hl ?_
  have up : ∀ b o, s₁.heap.get? b = some o → (s₁.heap.push { cls := .type "list_iterator", data := .fields #[.ref ax, .int 0 0] }).get? b = some o := fun b o e => Heap.get?_push_of_some _ e
  refine blockZ (z := z + 1) (WZ.list hh s₁.heap.objs.size ax (Nat.ne_of_lt hlt) its) hsz (fun i h st => by obtain ⟨o, e, _⟩ := st.1; exact ⟨o, e⟩) list_st hcell hkind hx ⟨⟨_, Heap.get?_push_size _ rfl, rfl, rfl⟩, hl.push _⟩ (fun b hb => ?_)
    (F.keeps up) (N.grown up) (Nat.ne_of_lt F.ns.lt) (next_is_new F) (fun p hp => Nat.ne_of_lt (Heap.lt_size (N p hp).1)) S (by show (s₁.heap.push _).objs.size = _; rw [Heap.size_push, Z]) (R _ ⟨_, rfl⟩) ?_
  · show b < (s₁.heap.push _).objs.size
    rw [Heap.size_push]
    rcases List.mem_cons.mp hb with rfl | hb
    · exact Nat.lt_succ_self _
    · rw [List.mem_singleton.mp hb]; exact Nat.lt_succ_of_lt hlt
  · intro D C h tk m' ys news' k F' N' o1 hn hC₀ hD₀ hCL hDL hCD offC fin hz
    refine ⟨m', hn, fun h'' hs'' => fin D h'' tk (F'.change hs'' hCL hC₀) (fun p hp => ?_) o1 (hs''.1.trans hz)⟩
    refine ⟨hs''.extBut _ _ ?_ (N' p hp).1, (N' p hp).2⟩
    rcases List.mem_cons.mp hp with rfl | hp
    · exact Ne.symm hCD
    · exact offC p hp
end
end Mine
end SecSc
section SecHM
theorem Mine.offHM : True := by
  w_top off
  k_with_none
  trivial
namespace Mine
section
variable {α : Type} (pre : α → α → Prop)
def HeapL (zs : List α) : Prop := ∀ i x y, 0 < i → zs[(i - 1) / 2]? = some x → zs[i]? = some y → pre x y
def UpL (zs : List α) (k : Nat) : Prop :=
  (∀ i x y, 0 < i → i ≠ k → zs[(i - 1) / 2]? = some x → zs[i]? = some y → pre x y) ∧
  (∀ c x y, 0 < c → 0 < k → (c - 1) / 2 = k → zs[(k - 1) / 2]? = some x → zs[c]? = some y → pre x y)
def DownL (zs : List α) (k : Nat) : Prop :=
  (∀ i x y, 0 < i → i ≠ k → (i - 1) / 2 ≠ k → zs[(i - 1) / 2]? = some x → zs[i]? = some y → pre x y) ∧
  (∀ c x y, 0 < c → 0 < k → (c - 1) / 2 = k → zs[(k - 1) / 2]? = some x → zs[c]? = some y → pre x y)
noncomputable def swL (zs : List α) (i j : Nat) (a b : α) : List α := (zs.set i b).set j a
theorem swL_get {zs : List α} {i j : Nat} {a b : α} (hi : zs[i]? = some a) (hj : zs[j]? = some b) (k : Nat) :
    (swL zs i j a b)[k]? = if k = j then some a else if k = i then some b else zs[k]? := by
  have li := (List.getElem?_eq_some_iff.mp hi).1
  have lj := (List.getElem?_eq_some_iff.mp hj).1
  unfold swL
  by_cases h1 : k = j
  · subst h1; simp [lj]
  · by_cases h2 : k = i
    · subst h2; simp [li, h1, Ne.symm h1]
    · simp [h1, h2, Ne.symm h1, Ne.symm h2]
theorem swL_perm {zs : List α} {i j : Nat} {a b : α} (hi : zs[i]? = some a) (hj : zs[j]? = some b) : (swL zs i j a b).Perm zs := by
  obtain ⟨li, e1⟩ := List.getElem?_eq_some_iff.mp hi
  obtain ⟨lj, e2⟩ := List.getElem?_eq_some_iff.mp hj
  unfold swL
  rw [← e1, ← e2]
  exact List.set_set_perm li lj
theorem swL_len {zs : List α} {i j : Nat} {a b : α} : (swL zs i j a b).length = zs.length := by simp [swL]
theorem UpL.done {pre : α → α → Prop} {zs : List α} {k : Nat} (U : UpL pre zs k) (h : k = 0 ∨ ∀ x y, zs[(k - 1) / 2]? = some x → zs[k]? = some y → pre x y) : HeapL pre zs := by
  intro i x y hi hx hy
  by_cases e : i = k
  · subst e
    rcases h with h | h
    · omega
    · exact h x y hx hy
  · exact U.1 i x y hi e hx hy
theorem UpL.step {pre : α → α → Prop} (tr : ∀ a b c, pre a b → pre b c → pre a c) {zs : List α} {k : Nat} {a b : α} (U : UpL pre zs k) (hk : 0 < k) (ha : zs[k]? = some a) (hb : zs[(k - 1) / 2]? = some b) (hlt : pre a b) :
    UpL pre (swL zs k ((k - 1) / 2) a b) ((k - 1) / 2) := by
  refine ⟨fun i x y hi hne hx hy => ?_, fun c x y hc hp he hx hy => ?_⟩
  · rw [swL_get ha hb] at hx hy
    rw [if_neg hne] at hy
    by_cases e1 : (i - 1) / 2 = (k - 1) / 2
    · rw [if_pos e1] at hx; cases hx
      by_cases e2 : i = k
      · rw [if_pos e2] at hy; cases hy; exact hlt
      · rw [if_neg e2] at hy
        exact tr _ _ _ hlt (U.1 i b y hi e2 (by rw [e1]; exact hb) hy)
    · rw [if_neg e1] at hx
      by_cases e2 : i = k
      · subst e2; exact absurd rfl e1
      · rw [if_neg e2] at hy
        by_cases e3 : (i - 1) / 2 = k
        · rw [if_pos e3] at hx; cases hx
          exact U.2 i _ y hi hk e3 hb hy
        · rw [if_neg e3] at hx
          exact U.1 i x y hi e2 hx hy
  · rw [swL_get ha hb] at hx hy
    rw [if_neg (by omega), if_neg (by omega)] at hx
    have hbb : pre x b := U.1 ((k - 1) / 2) x b hp (by omega) hx hb
    rw [if_neg (by omega)] at hy
    by_cases e2 : c = k
    · rw [if_pos e2] at hy; cases hy; exact hbb
    · rw [if_neg e2] at hy
      exact tr _ _ _ hbb (U.1 c b y hc e2 (by rw [he]; exact hb) hy)
theorem DownL.step {pre : α → α → Prop} {zs : List α} {k c : Nat} {a b : α} (D : DownL pre zs k) (hc : c = 2 * k + 1 ∨ c = 2 * k + 2) (ha : zs[k]? = some a) (hb : zs[c]? = some b)
    (hs : ∀ d y, d ≠ c → (d = 2 * k + 1 ∨ d = 2 * k + 2) → zs[d]? = some y → pre b y) :
    DownL pre (swL zs k c a b) c := by
  have hkc : (c - 1) / 2 = k := by omega
  refine ⟨fun i x y hi hne hp hx hy => ?_, fun d x y hd hp he hx hy => ?_⟩
  · rw [swL_get ha hb] at hx hy
    rw [if_neg hne] at hy
    rw [if_neg hp] at hx
    by_cases e1 : (i - 1) / 2 = k
    · rw [if_pos e1] at hx; cases hx
      rw [if_neg (by omega)] at hy
      exact hs i y hne (by omega) hy
    · rw [if_neg e1] at hx
      by_cases e2 : i = k
      · rw [if_pos e2] at hy; cases hy
        subst e2
        exact D.2 c x _ (by omega) hi hkc hx hb
      · rw [if_neg e2] at hy
        exact D.1 i x y hi e2 e1 hx hy
  · rw [swL_get ha hb] at hx hy
    rw [hkc, if_neg (by omega), if_pos rfl] at hx; cases hx
    rw [if_neg (by omega), if_neg (by omega)] at hy
    exact D.1 d _ y hd (by omega) (by omega) (by rw [he]; exact hb) hy
theorem DownL.leaf {pre : α → α → Prop} {zs : List α} {k : Nat} (D : DownL pre zs k) (h : zs.length ≤ 2 * k + 1) : UpL pre zs k := by
  refine ⟨fun i x y hi hne hx hy => D.1 i x y hi hne (fun e => ?_) hx hy, D.2⟩
  have := (List.getElem?_eq_some_iff.mp hy).1
  omega
theorem UpL.leafPush {pre : α → α → Prop} {zs : List α} {a : α} (H : HeapL pre zs) : UpL pre (zs ++ [a]) zs.length := by
  refine ⟨fun i x y hi hne hx hy => ?_, fun c x y hc hk he hx hy => ?_⟩
  · have l := (List.getElem?_eq_some_iff.mp hy).1
    rw [List.length_append, List.length_singleton] at l
    rw [List.getElem?_append_left (by omega)] at hx hy
    exact H i x y hi hx hy
  · have l := (List.getElem?_eq_some_iff.mp hy).1
    rw [List.length_append, List.length_singleton] at l
    omega
theorem HeapL.root {pre : α → α → Prop} (rf : ∀ a, pre a a) (tr : ∀ a b c, pre a b → pre b c → pre a c) {zs : List α} {r : α} (H : HeapL pre zs) (h0 : zs[0]? = some r) : ∀ (i : Nat) (y : α), zs[i]? = some y → pre r y := by
  intro i
  induction i using Nat.strongRecOn with
  | _ i ih =>
    intro y hy
    by_cases e : i = 0
    · subst e; rw [h0] at hy; cases hy; exact rf _
    · have l := (List.getElem?_eq_some_iff.mp hy).1
      obtain ⟨x, hx⟩ : ∃ x, zs[(i - 1) / 2]? = some x := ⟨_, List.getElem?_eq_getElem (by omega)⟩
      exact tr _ _ _ (ih _ (by omega) x hx) (H i x y (by omega) hx hy)
theorem DownL.ofPop {pre : α → α → Prop} {zs ys : List α} {a : α} (H : HeapL pre zs) (hz : zs = ys ++ [a]) (hy : ys ≠ []) : DownL pre (ys.set 0 a) 0 := by
  subst hz
  refine ⟨fun i x y hi hne hp hx hy' => ?_, fun c x y _ h0 => absurd h0 (Nat.lt_irrefl 0)⟩
  rw [List.getElem?_set_ne (by omega)] at hx hy'
  have l := (List.getElem?_eq_some_iff.mp hy').1
  exact H i x y hi (by rw [List.getElem?_append_left (by omega)]; exact hx) (by rw [List.getElem?_append_left l]; exact hy')
end
end Mine
end SecHM
section SecHR
theorem Mine.offHR : True := by
  w_top off
  k_with_none
  trivial
open PySem PySem.W PyProof.Rows PySem.Spec PySem.Calls
set_option maxRecDepth 100000
set_option maxHeartbeats 8000000
namespace Mine
abbrev Kept (h : Heap) (news : List (Addr × Obj)) (h' : Heap) : Prop := ∀ b o, h.get? b = some o → (∀ p ∈ news, p.1 ≠ b) → h'.get? b = some o
abbrev KI (KF : Frag) (h : Heap) (news : List (Addr × Obj)) : Prop := ∀ b o, KF.lookup b = some o → h.get? b = some o ∧ ∀ p ∈ news, p.1 ≠ b
section
variable {prog : Program} {w : World} {A A₀ : Around} {E : Value → Shared → Prop} {s : Shared} {h₀ base : Heap} {L l a b D : Addr} {m : Str → Option Value} {news news' : List (Addr × Obj)} {n : Nat} {outer : List Env} {env : Env}
theorem absPost {M : Model} {A : Around} {c : Sem Flow} {Q : Flow → Shared → Prop} {E : Value → Shared → Prop} {s : Shared} (h : ∀ (P : Flow → Shared → Prop) (F : Value → Shared → Prop), P = Q → F = E → wpAny M A c P F s) : wpAny M A c Q E s := h Q E rfl rfl
def InW (KF : Frag) (g : Heap) : Prop := KF.In g
theorem kiOf {KF : Frag} {h : Heap} (XK : InW KF h₀) (F : Fr h₀ L h m) (N : News h₀ L h news) : KI KF h news := fun b o e =>
  ⟨F.keep b o (XK _ _ e), fun p hp q => by have := (N p hp).2.2; rw [q, XK _ _ e] at this; cases this⟩
theorem inOf {KF : Frag} {g : Heap} (K : KI KF s.heap news) (K1 : Kept s.heap news g) : InW KF g := fun b o e => K1 b o (K b o e).1 (K b o e).2
theorem codeDefF {R : Result → Shared → Prop} {K : Frag} {p : Program} {loose : List Str} {mean : ExcName → Option Value} {mg mb : Str → Option Value} {name qual : Str} {params : Arguments} {body : List Stmt} {scope : Scope} {dV kV doc pm cdv ct oc : Value} {an od : Option Addr} {osl : Array (Option Value)} {f : Addr} {args : Args} {binds : List (Str × Value)}
    (B : Below A₀ base outer h₀) (F : Fr h₀ L s.heap m) (X₀ : K.In h₀) (N : News h₀ L s.heap news) (T : Top p loose mean mg mb h₀) (hA : A.frames = some (env :: outer)) (hf : env.frame = some L) (hke : env.scope.kind = .function)
    (ho : K.lookup f = some ⟨oc, od, .func (fnOf name qual params body scope dV kV doc pm an cdv ct), osl⟩) (hcd : codeIn K cdv qual = true) (hroom : A.depth < recursionLimit)
    (hbind : BindsTo s (fnOf name qual params body scope dV kV doc pm an cdv ct) args binds) (hloc : ∀ y ∈ binds, scope.names.lookup y.1 = some .local)
    (h : ∀ g L' h₁, Fr h₀ L g m → Fr g L' h₁ (fun y => binds.reverse.lookup y) → News g L' h₁ news → Below A base (env :: outer) g → K.In g → Top p loose mean mg mb g → Kept s.heap news g →
      wpAny (model prog w) (A.deeper (envOf qual scope L' f cdv)) (execs body (envOf qual scope L' f cdv))
        (fun fl s' => LeaveK h₀ L m g R (match fl with | .ret v => v | _ => .none) s')
        (fun e s' => wpAny (model prog w) (A.deeper (envOf qual scope L' f cdv)) (leaving (envOf qual scope L' f cdv) e) (fun _ s'' => R (.error e) s'') (fun e' s'' => R (.error e') s'') s')
        { s with heap := h₁, toks := s.toks + binds.length })
    (hco : scope.isCoroutine = false) (hgen : scope.isGenerator = false) (hk : scope.kind = .function)
    (hcell : ∀ x ∈ scope.names, x.2 ≠ .cell) : codeAny (model prog w) A (.call (.ref f) args) R s := by
  obtain ⟨FG, BG, st, lv⟩ := groundX (R := R) B F N hA hf hke
  have X := X₀.keeps F.keep
  refine codeAny_call_def (fd := fnOf name qual params body scope dV kV doc pm an cdv ct) (body := body) (binds := binds) hroom (X _ _ ho) rfl (T.nolimit.keeps F.keep) (codeRec_of X hcd) rfl hbind hcell hloc (fun h₁ hns hk₁ => ?_) hco hgen hk
  exact wpAny_mono (h _ s.heap.objs.size h₁ FG ⟨hns, fun b o e => hk₁ b o (of_hideAll _ e), Nat.le_of_eq (hideAll_size _ _)⟩
    (fun p hp => ⟨hk₁ _ _ (N p hp).1, Nat.ne_of_lt (Heap.lt_size (N p hp).1), hideAll_none _ (List.mem_map_of_mem hp)⟩) BG (X₀.keeps st) (T.keeps st)
    (fun b o e ne => hideAll_get _ e fun q => by obtain ⟨p, hp, q⟩ := List.mem_map.mp q; exact ne p hp q)) (fun fl s' hl => lv _ _ hl) fun _ _ y => y
def WStep (h₀ : Heap) (L : Addr) (s : Shared) (J : Nat → (Str → Option Value) → List (Addr × Obj) → Prop) (Q : Flow → Shared → Prop) (n : Nat) (f : Flow) (s₃ : Shared) : Prop := match f with
  | .next | .cont => ∃ h' tk m₂ news₂ n', s₃ = { s with heap := h', toks := tk } ∧ Fr h₀ L h' m₂ ∧ News h₀ L h' news₂ ∧ n' < n ∧ J n' m₂ news₂
  | .brk => Q .next s₃
  | .ret v => Q (.ret v) s₃
theorem WStep.next {h' : Heap} {J : Nat → (Str → Option Value) → List (Addr × Obj) → Prop} {Q : Flow → Shared → Prop} {n n' tk : Nat} {m₂ : Str → Option Value} {news₂ : List (Addr × Obj)}
    (F : Fr h₀ L h' m₂) (N : News h₀ L h' news₂) (hn : n' < n) (hJ : J n' m₂ news₂) : WStep h₀ L s J Q n .next { s with heap := h', toks := tk } := ⟨h', tk, m₂, news₂, n', rfl, F, N, hn, hJ⟩
theorem WStep.cont {h' : Heap} {J : Nat → (Str → Option Value) → List (Addr × Obj) → Prop} {Q : Flow → Shared → Prop} {n n' tk : Nat} {m₂ : Str → Option Value} {news₂ : List (Addr × Obj)}
    (F : Fr h₀ L h' m₂) (N : News h₀ L h' news₂) (hn : n' < n) (hJ : J n' m₂ news₂) : WStep h₀ L s J Q n .cont { s with heap := h', toks := tk } := ⟨h', tk, m₂, news₂, n', rfl, F, N, hn, hJ⟩
theorem whileK {Q : Flow → Shared → Prop} {test : Expr} {body : List Stmt} {pos : Pos} (J : Nat → (Str → Option Value) → List (Addr × Obj) → Prop) {n₀ : Nat}
    (F : Fr h₀ L s.heap m) (N : News h₀ L s.heap news) (hJ : J n₀ m news)
    (turn : ∀ n m₁ news₁ h₁ tk₁, Fr h₀ L h₁ m₁ → News h₀ L h₁ news₁ → J n m₁ news₁ →
      wpAny (model prog w) A (isTrue test env (eval test env)) (fun b s₂ =>
        if b = true then wpAny (model prog w) A (execs body env) (WStep h₀ L s J Q n) E s₂ else Q .next s₂) E { s with heap := h₁, toks := tk₁ })
    (hE : PassesOwn (model prog w) A env E) :
    wpAny (model prog w) A (exec (.While test body [] pos) env) Q E s := by
  refine wpAny_While (codeAny_whileLoop (fun n s' => ∃ h₁ tk₁ m₁ news₁, s' = { s with heap := h₁, toks := tk₁ } ∧ Fr h₀ L h₁ m₁ ∧ News h₀ L h₁ news₁ ∧ J n m₁ news₁) ?_ n₀ ⟨s.heap, s.toks, m, news, rfl, F, N, hJ⟩)
  rintro n s' ⟨h₁, tk₁, m₁, news₁, rfl, F₁, N₁, J₁⟩
  refine wpAny_mono (turn n m₁ news₁ h₁ tk₁ F₁ N₁ J₁) (fun b s₂ h₂ => ?_) hE
  cases b with
  | false =>
    simp only [Bool.false_eq_true, if_false] at h₂ ⊢
    exact wpAny_execs_nil h₂
  | true =>
    simp only [if_true] at h₂ ⊢
    refine wpAny_mono h₂ (fun f s₃ h₃ => ?_) hE
    cases f with
    | next => obtain ⟨h', tk, m₂, news₂, n', rfl, F₂, N₂, hn, J₂⟩ := h₃; exact ⟨n', hn, h', tk, m₂, news₂, rfl, F₂, N₂, J₂⟩
    | cont => obtain ⟨h', tk, m₂, news₂, n', rfl, F₂, N₂, hn, J₂⟩ := h₃; exact ⟨n', hn, h', tk, m₂, news₂, rfl, F₂, N₂, J₂⟩
    | brk => exact h₃
    | ret v => exact h₃
theorem setItemK {Q : Unit → Shared → Prop} {vs : List Value} {k : Int} {t : Tok} {x : Value} (F : Fr h₀ L s.heap m) (N : News h₀ L s.heap news) (U : Upd D (listOf vs.toArray n) (listOf (vs.set k.toNat x).toArray n) news news') (h0 : 0 ≤ k) (h1 : k < vs.length) (hfit : k < 2 ^ 63)
    (h : ∀ h', Fr h₀ L h' m → News h₀ L h' news' → Q () { s with heap := h' }) : wpAny (model prog w) A (setItem (.ref D) (.int k t) x) Q E s := by
  obtain ⟨pre, post, rfl, rfl, a, b⟩ := U.split
  have z := N (D, listOf vs.toArray n) (List.mem_append.mpr (.inr (.head _)))
  have hs : vs.toArray.size = vs.length := List.size_toArray
  have hj : k.toNat < vs.length := by omega
  refine ki_setAt z.1 h0 hfit (by omega) (h _ (F.change (Heap.SameBut.update ..) z.2.1 z.2.2) (ki_turn _ N a b ?_ ?_))
  · show vs.toArray.setIfInBounds k.toNat x = (vs.set k.toNat x).toArray
    apply Array.toList_inj.mp
    simp
  · simp
end
end Mine
end SecHR
section SecS1
theorem Mine.offS1 : True := by
  w_top off
  k_with_none
  trivial
open PySem PySem.W PyProof.Rows PySem.Spec PySem.Calls
set_option maxRecDepth 100000
set_option maxHeartbeats 8000000
namespace Mine
abbrev CtG (w : World) (KF : Frag) (x : Sem Value) (d : Nat) (news : List (Addr × Obj)) (Ret : Value → List (Addr × Obj) → Prop) : Prop :=
  ∀ (p : Program) (loose : List Str) (mean : ExcName → Option Value) (mg mb : Str → Option Value) (dp un : Nat) (gd : Option (List Code)) (cn : Str) (cs : Scope) (a : Addr) (ccd : Value) (cl : List (Str × Addr)) (outer : List Env) (A₀ : Around) (base h₀ : Heap) (L : Addr) (m : Str → Option Value) (s : Shared) (Q E : Value → Shared → Prop),
    Below A₀ base outer h₀ → CodeHd base 34 30 → CodeHd base 41 37 → CodeHd base 62 58 → Fr h₀ L s.heap m → (hd1.heap_39 w.params).In h₀ → KI KF s.heap news → News h₀ L s.heap news → Top p loose mean mg mb h₀ → cs.kind = .function → dp + d < recursionLimit → un + 8 * d < cLine →
    (∀ r news' h' tk', Fr h₀ L h' m → News h₀ L h' news' → Kept s.heap news h' → Ret r news' → Q r { s with heap := h', toks := tk' }) →
    wpAny (model PySem.Challenge.rw_nq0126_01.row.prog w) (ktrTop dp un gd cn cs L a ccd cl outer) x Q E s
abbrev CtH (w : World) (KF : Frag) (x : Sem Value) (d : Nat) (news : List (Addr × Obj)) (Ret : Value → List (Addr × Obj) → Prop) : Prop :=
  ∀ (p : Program) (loose : List Str) (mean : ExcName → Option Value) (mg mb : Str → Option Value) (dp un : Nat) (gd : Option (List Code)) (cn : Str) (cs : Scope) (a : Addr) (ccd : Value) (cl : List (Str × Addr)) (outer : List Env) (A₀ : Around) (base h₀ : Heap) (L : Addr) (m : Str → Option Value) (s : Shared) (Q E : Value → Shared → Prop),
    Below A₀ base outer h₀ → CodeHd base 34 30 → CodeHd base 41 37 → CodeHd base 62 58 → Fr h₀ L s.heap m → (hd1.heap_39 w.params).In h₀ → InW KF h₀ → News h₀ L s.heap news → Top p loose mean mg mb h₀ → cs.kind = .function → dp + d < recursionLimit → un + 8 * d < cLine →
    (∀ r news' h' tk', Fr h₀ L h' m → News h₀ L h' news' → Ret r news' → Q r { s with heap := h', toks := tk' }) →
    wpAny (model PySem.Challenge.rw_nq0126_01.row.prog w) (ktrTop dp un gd cn cs L a ccd cl outer) x Q E s
abbrev refs {ι : Type} (zs : List (Addr × ι)) : List Value := zs.map fun z => .ref z.1
def CmpOk {ι : Type} (w : World) (KF : Frag) (Inv : List (Addr × Obj) → Prop) (It : Addr → ι → Prop) (pre : ι → ι → Prop) (d : Nat) : Prop :=
  ∀ v1 a1 v2 a2 H o W, It v1 a1 → It v2 a2 → Inv W → (∀ p ∈ W, p.1 ≠ H) → CtH w KF (compareOp .Lt (.ref v1) (.ref v2)) d ((H, o) :: W) (fun r news' => ∃ b W', r = .bool b ∧ news' = (H, o) :: W' ∧ Inv W' ∧ (∀ p ∈ W', p.1 ≠ H) ∧ (if b = true then pre a1 a2 else pre a2 a1))
abbrev preZ {ι : Type} (pre : ι → ι → Prop) : Addr × ι → Addr × ι → Prop := fun x y => pre x.2 y.2
abbrev SiftRet {ι : Type} (Inv : List (Addr × Obj) → Prop) (pre : ι → ι → Prop) (H : Addr) (c : Nat) (zs : List (Addr × ι)) : Value → List (Addr × Obj) → Prop := fun r news' =>
  r = .none ∧ ∃ zs' W', news' = (H, listOf (refs zs').toArray c) :: W' ∧ zs'.Perm zs ∧ HeapL (preZ pre) zs' ∧ Inv W' ∧ ∀ p ∈ W', p.1 ≠ H
theorem rulesS1 : True := by
  k_with_none
  k_with "call ref" => refine stop ?_
  k_with "exec While Compare" => refine stop ?_
  k_with "exec While" => refine stop ?_
  k_with "compareOp Lt ref ref" => refine stop ?_
  k_with "compareOp Lt ref" => refine stop ?_
  k_with "subscriptTail Name" => (k_here; (refine' kim_list (by k_asm) (by k_mem) (by rfl) (by rfl) (by first | omega | (rw [half_is (by assumption)]; omega)) (by first | omega | (rw [half_is (by assumption)]; omega)) (by assumption) ?_))
  k_with "setItem ref int ref" => (k_here; (refine' setItemK (by k_asm) (by k_asm) (by exact Upd.head (by assumption)) (by omega) (by omega) (by omega) ?_); intro hq9 Fq9 Nq9; (try k_sweep))
  k_with "eval Name" => (k_here; k_dflt (refine' ld (by k_asm) (by first | exact rfl | assumption) ?_; k_whole))
  trivial
theorem half_is {n : Nat} (hn : 0 < n) : ((n : Int) - 1).fdiv (2 ^ Int.toNat 1) = (((n - 1) / 2 : Nat) : Int) := by
  show ((n : Int) - 1).fdiv 2 = _
  rw [Int.fdiv_eq_ediv_of_nonneg _ (by omega)]; omega
theorem set_same {ι : Type} {zs : List (Addr × ι)} {k : Nat} {z : Addr × ι} (hz : zs[k]? = some z) : (refs zs).set k (.ref z.1) = refs zs := by
  apply List.ext_getElem?; intro i; rw [List.getElem?_set]; split
  · rename_i e; subst e
    have hkl := (List.getElem?_eq_some_iff.mp hz).1
    rw [if_pos (by simpa [refs] using hkl)]; simp [refs, hz]
  · rfl
theorem set_other {ι : Type} {zs : List (Addr × ι)} {vs : List Value} {k i : Nat} {v : Value} (hv : vs.set k v = refs zs) (hi : i ≠ k) : vs[i]? = (zs[i]?).map fun z => .ref z.1 := by
  have := congrArg (fun l => l[i]?) hv
  simp only [List.getElem?_set_ne (Ne.symm hi)] at this
  rw [this]; simp [refs]
theorem set_swap {ι : Type} {zs : List (Addr × ι)} {vs : List Value} {i j : Nat} {a b : Addr × ι} (hv : vs.set i (.ref a.1) = refs zs) : ((vs.set i (.ref b.1)).set j (.ref a.1)) = refs (swL zs i j a b) := by
  have e : (vs.set i (.ref a.1)).set i (.ref b.1) = vs.set i (.ref b.1) := List.set_set _
  rw [← e, hv]
  simp [refs, swL, List.map_set]
theorem kept_ {g h h' : Heap} {L' : Addr} {m' : Str → Option Value} {news : List (Addr × Obj)} (K1 : Kept h news g) (F : Fr g L' h' m') : Kept h news h' := fun b o e ne => F.keep b o (K1 b o e ne)
inductive SdJ {ι : Type} (Inv : List (Addr × Obj) → Prop) (pre : ι → ι → Prop) (H : Addr) (c : Nat) (zs : List (Addr × ι)) (z : Addr × ι) (t0 : Tok) (n : Nat) (m₁ : Str → Option Value) (news₁ : List (Addr × Obj))  : Prop
  | mk (zs' : List (Addr × ι)) (vs' : List Value) (W' : List (Addr × Obj)) (t : Tok) (w1 : m₁ (Str.ofString "heap") = some (.ref H)) (w2 : m₁ (Str.ofString "startpos") = some (.int 0 t0)) (w3 : m₁ (Str.ofString "pos") = some (.int (n : Int) t)) (w4 : m₁ (Str.ofString "newitem") = some (.ref z.1)) (w5 : news₁ = (H, listOf vs'.toArray c) :: W') (w6 : vs'.set n (.ref z.1) = refs zs') (w7 : zs'[n]? = some z) (w8 : zs'.Perm zs) (w9 : UpL (preZ pre) zs' n) (w10 : Inv W') (w11 : ∀ p ∈ W', p.1 ≠ H)
theorem sdj_use {ι : Type} {Inv : List (Addr × Obj) → Prop} {pre : ι → ι → Prop} {H L : Addr} {h₀ : Heap} {c : Nat} {zs : List (Addr × ι)} {z : Addr × ι} {t0 : Tok} {G : Nat → (Str → Option Value) → Heap → Nat → Prop}
    (k : ∀ (n : Nat) m₁ h₁ tk₁ zs' vs' W' t, Fr h₀ L h₁ m₁ → News h₀ L h₁ ((H, listOf (List.toArray vs') c) :: W') → m₁ (Str.ofString "heap") = some (.ref H) → m₁ (Str.ofString "startpos") = some (.int 0 t0) → m₁ (Str.ofString "pos") = some (.int (n : Int) t) → m₁ (Str.ofString "newitem") = some (.ref z.1) →
      vs'.set n (.ref z.1) = refs zs' → zs'[n]? = some z → zs'.Perm zs → UpL (preZ pre) zs' n → Inv W' → (∀ p ∈ W', p.1 ≠ H) → G n m₁ h₁ tk₁) :
    ∀ n m₁ news₁ h₁ tk₁, Fr h₀ L h₁ m₁ → News h₀ L h₁ news₁ → SdJ Inv pre H c zs z t0 n m₁ news₁ → G n m₁ h₁ tk₁ := by
  rintro n m₁ _ h₁ tk₁ F N ⟨zs', vs', W', t, e1, e2, e3, e4, rfl, a, b, c, d, e, f⟩
  exact k _ _ _ _ _ _ _ _ F N e1 e2 e3 e4 a b c d e f
theorem cmp_use {ι : Type} {Inv : List (Addr × Obj) → Prop} {pre : ι → ι → Prop} {H L : Addr} {h₀ : Heap} {o : Obj} {m : Str → Option Value} {a1 a2 : ι} {G : Value → Heap → Nat → Prop}
    (k : ∀ b W' h' tk', Fr h₀ L h' m → News h₀ L h' ((H, o) :: W') → Inv W' → (∀ p ∈ W', p.1 ≠ H) → (if b = true then pre a1 a2 else pre a2 a1) → G (.bool b) h' tk') :
    ∀ r news' h' tk', Fr h₀ L h' m → News h₀ L h' news' → (∃ b W', r = .bool b ∧ news' = (H, o) :: W' ∧ Inv W' ∧ (∀ p ∈ W', p.1 ≠ H) ∧ (if b = true then pre a1 a2 else pre a2 a1)) → G r h' tk' := by
  rintro _ _ h' tk' F N ⟨b, W', rfl, rfl, a, c, d⟩
  exact k _ _ _ _ F N a c d
theorem siftdown {ι : Type} (w : World) (KF : Frag) (Inv : List (Addr × Obj) → Prop) (It : Addr → ι → Prop) (pre : ι → ι → Prop) (d : Nat) (tr : ∀ a b c, pre a b → pre b c → pre a c) (HC : CmpOk w KF Inv It pre d)
    (H : Addr) (c k : Nat) (zs : List (Addr × ι)) (W : List (Addr × Obj)) (z : Addr × ι) (t0 t1 : Tok) (hz : zs[k]? = some z) (hU : UpL (preZ pre) zs k) (hIt : ∀ x ∈ zs, It x.1 x.2) (hlen : zs.length < 2 ^ 20) (hI : Inv W) (hW : ∀ p ∈ W, p.1 ≠ H) :
    CtG w KF (call (.ref 93) [.ref H, .int 0 t0, .int (k : Int) t1]) (d + 1) ((H, listOf (refs zs).toArray c) :: W) (SiftRet Inv pre H c zs) := by
  have hkl := (List.getElem?_eq_some_iff.mp hz).1
  have hx : (refs zs)[((k : Nat) : Int).toNat]? = some (.ref z.1) := by simp [refs, hz]
  unfold CtG; k_fill
  intro p loose mean mg mb dp un gd cn cs a ccd cl outer A₀ base h₀ L m s Q E B C1 C2 C3 F X KIh N T hk hd hu hret
  refine wpAny_call ?_
  k_dflt (refine' codeDefF ?k1 ?k2 ?k3 ?k4 ?k5 ?kA ?kF ?kK ?k6 ?k7 ?k8 ?k9 ?kB ?_ ?c2 ?c3 ?c4 ?c5; (case kA => exact rfl); (case kF => exact rfl); (case kK => assumption); (case k1 => k_asm); (case k2 => k_asm); (case k3 => k_asm); (case k4 => k_asm); (case k5 => k_asm); (case k6 => k_is); (case k7 => k_is); (case k8 => k_room); (case k9 => exact BindsTo.of_eq rfl); (case kB => exact locs rfl); (case c2 => exact rfl); (case c3 => exact rfl); (case c4 => exact rfl); (case c5 => decide); intro g' L' h' FG' F' N' B' X' T' K1'; (try dsimp only); (try k_lift B'); (try k_fold))
  have XK := inOf KIh K1'
  w_strict k_steps
  unfold Stop
  refine' whileK (SdJ Inv pre H c zs z t0) (n₀ := k) (by k_asm) (by k_asm) ⟨zs, refs zs, W, t1, rfl, rfl, rfl, rfl, rfl, set_same hz, hz, .refl _, hU, hI, hW⟩ ?turn ?hE
  case hE => passes_own
  case turn =>
    refine sdj_use ?_
    intro n m₁ h₁ tk₁ zs' vs' W' t F1 N1 e1 e2 e3 e4 hv hz' hp hU' hI' hW'
    have hnl := (List.getElem?_eq_some_iff.mp hz').1
    have hvl : vs'.length = zs'.length := by have := congrArg List.length hv; simpa [refs] using this
    have hzl : zs'.length = zs.length := hp.length_eq
    by_cases hn0 : 0 < n
    · obtain ⟨y, hy⟩ : ∃ y, zs'[(n - 1) / 2]? = some y := ⟨_, List.getElem?_eq_getElem (by omega)⟩
      have hhalf := half_is hn0
      have hx2 : vs'[(((n : Int) - 1).fdiv (2 ^ Int.toNat 1)).toNat]? = some (.ref y.1) := by
        rw [hhalf, Int.toNat_natCast, set_other hv (by omega), hy]; rfl
      w_strict k_steps
      unfold Stop
      k_dflt (refine' HC _ _ _ _ H _ _ ?p1 ?p2 hI' hW' _ _ _ _ _ _ _ _ _ _ _ _ _ _ _ _ _ _ _ _ _ _ ?k1 ?c1 ?c2 ?c3 ?k2 ?k3 ?kI ?k4 ?k5 ?kK ?kd ?ku ?_; (case k1 => k_asm); (case k2 => k_asm); (case k3 => k_asm); (case k4 => k_asm); (case k5 => k_asm); (case kK => first | exact rfl | assumption))
      (case p1 => exact hIt _ (hp.mem_iff.mp (List.mem_of_getElem? hz')))
      (case p2 => exact hIt _ (hp.mem_iff.mp (List.mem_of_getElem? hy)))
      (case c1 => assumption)
      (case c2 => assumption)
      (case c3 => assumption)
      (case kI => first | assumption | exact kiOf (by assumption) (by k_asm) (by k_asm))
      (case kd => dsimp only [ktrTop]; omega)
      (case ku => dsimp only [ktrTop]; omega)
      refine cmp_use ?_
      intro b W2 h2 tk2 F2 N2 hI2 hW2 hb
      dsimp only
      cases b
      · w_strict k_steps
        dsimp only [WStep]
        w_strict k_steps
        exact hret _ _ _ _ (by k_asm) (by k_asm) (kept_ K1' (by k_asm)) ⟨rfl, zs', W2, by rw [← hv]; rfl, hp, hU'.done (.inr fun x y' h1 h2 => by rw [hy] at h1; rw [hz'] at h2; cases h1; cases h2; exact hb), hI2, hW2⟩
      · w_strict k_steps
        dsimp only
        refine' WStep.cont (by k_asm) (by k_asm) (n' := (n - 1) / 2) (by omega) ⟨swL zs' n ((n - 1) / 2) z y, vs'.set n (.ref y.1), W2, ?tt, ?e1, ?e2, ?e3, ?e4, rfl, set_swap hv, by rw [swL_get hz' hy, if_pos rfl], (swL_perm hz' hy).trans hp, UpL.step (pre := preZ pre) (fun a b c h1 h2 => tr a.2 b.2 c.2 h1 h2) hU' hn0 hz' hy hb, hI2, hW2⟩
        case e3 => rw [← hhalf]; rfl
        case e1 => exact e1
        case e2 => exact e2
        case e4 => exact e4
    · w_strict k_steps
      exact hret _ _ _ _ (by k_asm) (by k_asm) (kept_ K1' (by k_asm)) ⟨rfl, zs', W', by rw [← hv]; rfl, hp, hU'.done (.inl (by omega)), hI', hW'⟩
end Mine
end SecS1
section SecS2
theorem Mine.offS2 : True := by
  w_top off
  k_with_none
  trivial
open PySem PySem.W PyProof.Rows PySem.Spec PySem.Calls
set_option maxRecDepth 100000
set_option maxHeartbeats 8000000
namespace Mine
theorem rulesS2 : True := by
  k_with_none
  k_with "call ref" => refine stop ?_
  k_with "exec While Compare" => refine stop ?_
  k_with "exec While" => refine stop ?_
  k_with "compareOp Lt ref ref" => refine stop ?_
  k_with "compareOp Lt ref" => refine stop ?_
  k_with "subscriptTail Name" => (k_here; (refine' kim_list (by k_asm) (by k_mem) (by rfl) (by rfl) (by first | omega | (rw [half_is (by assumption)]; omega)) (by first | omega | (rw [half_is (by assumption)]; omega)) (by assumption) ?_))
  k_with "setItem ref int ref" => (k_here; (refine' setItemK (by k_asm) (by k_asm) (by exact Upd.head (by assumption)) (by omega) (by omega) (by omega) ?_); intro hq9 Fq9 Nq9; (try k_sweep))
  k_with "eval Name" => (k_here; k_dflt (refine' ld (by k_asm) (by first | exact rfl | assumption) ?_; k_whole))
  trivial
theorem lenList {prog : Program} {w : World} {A : Around} {E : Value → Shared → Prop} {s : Shared} {h₀ : Heap} {L l : Addr} {news : List (Addr × Obj)} {vs : List Value} {k n : Nat} {Q : Value → Shared → Prop}
    (N : News h₀ L s.heap news) (hm : (l, listOf vs.toArray n) ∈ news) (hk : vs.length = k) (hz : k < 2 ^ 20) (h : ∀ t tk, Q (.int (k : Int) t) { s with toks := tk }) :
    wpAny (model prog w) A (call (.builtin "len") [.ref l]) Q E s := by
  have e : (List.toArray vs).size = k := by rw [List.size_toArray]; exact hk
  exact call_len_list (PySem.IsL.isList (n := n) (N _ hm).1) (by rw [e]; omega) (by rw [e]; exact h _ _)
theorem rulesS2b : True := by
  k_with "call builtin:len" => refine stop ?_
  trivial
inductive SuJ {ι : Type} (Inv : List (Addr × Obj) → Prop) (pre : ι → ι → Prop) (H : Addr) (c : Nat) (zs : List (Addr × ι)) (z : Addr × ι) (n : Nat) (m₁ : Str → Option Value) (news₁ : List (Addr × Obj))  : Prop
  | mk (k : Nat) (zs' : List (Addr × ι)) (vs' : List Value) (W' : List (Addr × Obj)) (t1 t2 t3 t4 : Tok) (w1 : n = zs.length - k) (w2 : m₁ (Str.ofString "heap") = some (.ref H)) (w3 : m₁ (Str.ofString "endpos") = some (.int (zs.length : Int) t1)) (w4 : m₁ (Str.ofString "startpos") = some (.int 0 t2)) (w5 : m₁ (Str.ofString "pos") = some (.int (k : Int) t3)) (w6 : m₁ (Str.ofString "newitem") = some (.ref z.1)) (w7 : m₁ (Str.ofString "childpos") = some (.int (2 * (k : Int) + 1) t4)) (w8 : news₁ = (H, listOf vs'.toArray c) :: W') (w9 : vs'.set k (.ref z.1) = refs zs') (w10 : zs'[k]? = some z) (w11 : zs'.Perm zs) (w12 : DownL (preZ pre) zs' k) (w13 : Inv W') (w14 : ∀ p ∈ W', p.1 ≠ H)
theorem suj_use {ι : Type} {Inv : List (Addr × Obj) → Prop} {pre : ι → ι → Prop} {H L : Addr} {h₀ : Heap} {c : Nat} {zs : List (Addr × ι)} {z : Addr × ι} {G : Nat → (Str → Option Value) → Heap → Nat → Prop}
    (k : ∀ m₁ h₁ tk₁ (k : Nat) zs' vs' W' t1 t2 t3 t4, Fr h₀ L h₁ m₁ → News h₀ L h₁ ((H, listOf (List.toArray vs') c) :: W') → m₁ (Str.ofString "heap") = some (.ref H) → m₁ (Str.ofString "endpos") = some (.int (zs.length : Int) t1) → m₁ (Str.ofString "startpos") = some (.int 0 t2) → m₁ (Str.ofString "pos") = some (.int (k : Int) t3) → m₁ (Str.ofString "newitem") = some (.ref z.1) → m₁ (Str.ofString "childpos") = some (.int (2 * (k : Int) + 1) t4) →
      vs'.set k (.ref z.1) = refs zs' → zs'[k]? = some z → zs'.Perm zs → DownL (preZ pre) zs' k → Inv W' → (∀ p ∈ W', p.1 ≠ H) → G (zs.length - k) m₁ h₁ tk₁) :
    ∀ n m₁ news₁ h₁ tk₁, Fr h₀ L h₁ m₁ → News h₀ L h₁ news₁ → SuJ Inv pre H c zs z n m₁ news₁ → G n m₁ h₁ tk₁ := by
  rintro n m₁ _ h₁ tk₁ F N ⟨k', zs', vs', W', u1, u2, u3, u4, rfl, e1, e2, e3, e4, e5, e6, rfl, a, b, c, d, e, f⟩
  exact k _ _ _ _ _ _ _ _ _ _ _ F N e1 e2 e3 e4 e5 e6 a b c d e f
theorem siftup {ι : Type} (w : World) (KF : Frag) (Inv : List (Addr × Obj) → Prop) (It : Addr → ι → Prop) (pre : ι → ι → Prop) (d : Nat) (tr : ∀ a b c, pre a b → pre b c → pre a c) (HC : CmpOk w KF Inv It pre d)
    (H : Addr) (c : Nat) (zs : List (Addr × ι)) (W : List (Addr × Obj)) (z : Addr × ι) (t0 : Tok) (hz : zs[0]? = some z) (hD : DownL (preZ pre) zs 0) (hIt : ∀ x ∈ zs, It x.1 x.2) (hlen : zs.length < 2 ^ 20) (hI : Inv W) (hW : ∀ p ∈ W, p.1 ≠ H) :
    CtG w KF (call (.ref 100) [.ref H, .int 0 t0]) (d + 2) ((H, listOf (refs zs).toArray c) :: W) (SiftRet Inv pre H c zs) := by
  have hkl := (List.getElem?_eq_some_iff.mp hz).1
  have hx : (refs zs)[(0 : Int).toNat]? = some (.ref z.1) := by show (refs zs)[0]? = _; simp only [refs, List.getElem?_map, hz]; rfl
  have hle : (refs zs).length = zs.length := by simp [refs]
  unfold CtG; k_fill
  intro p loose mean mg mb dp un gd cn cs a ccd cl outer A₀ base h₀ L m s Q E B C1 C2 C3 F X KIh N T hk hd hu hret
  refine wpAny_call ?_
  k_dflt (refine' codeDefF ?k1 ?k2 ?k3 ?k4 ?k5 ?kA ?kF ?kK ?k6 ?k7 ?k8 ?k9 ?kB ?_ ?c2 ?c3 ?c4 ?c5; (case kA => exact rfl); (case kF => exact rfl); (case kK => assumption); (case k1 => k_asm); (case k2 => k_asm); (case k3 => k_asm); (case k4 => k_asm); (case k5 => k_asm); (case k6 => k_is); (case k7 => k_is); (case k8 => k_room); (case k9 => exact BindsTo.of_eq rfl); (case kB => exact locs rfl); (case c2 => exact rfl); (case c3 => exact rfl); (case c4 => exact rfl); (case c5 => decide); intro g' L' h' FG' F' N' B' X' T' K1'; (try dsimp only); (try k_lift B'); (try k_fold))
  have XK := inOf KIh K1'
  w_strict k_steps
  unfold Stop
  ((refine' lenList ?k1 ?k2 ?k3 ?k4 ?_; (case k1 => k_asm); (case k2 => k_mem); (case k3 => assumption); (case k4 => assumption)); intro t9 tk9)
  w_strict k_steps
  unfold Stop
  refine' whileK (SuJ Inv pre H c zs z) (n₀ := zs.length) (by k_asm) (by k_asm) ⟨0, zs, refs zs, W, ?t1, ?t2, ?t3, ?t4, by simp, ?e1, ?e2, ?e3, ?e4, ?e5, ?e6, rfl, set_same hz, hz, .refl _, hD, hI, hW⟩ ?turn ?hE
  case hE => passes_own
  case e2 => exact rfl
  case e3 => exact rfl
  case e4 => exact rfl
  case e6 => exact rfl
  case e1 => exact rfl
  case e5 => exact rfl
  case turn =>
    refine suj_use ?_
    intro m₁ h₁ tk₁ k' zs' vs' W' u1 u2 u3 u4 F1 N1 e1 e2 e3 e4 e5 e6 hv hz' hp hD' hI' hW'
    have hnl := (List.getElem?_eq_some_iff.mp hz').1
    have hvl : vs'.length = zs'.length := by have := congrArg List.length hv; simpa [refs] using this
    have hzl : zs'.length = zs.length := hp.length_eq
    by_cases hc1 : 2 * k' + 1 < zs.length
    · obtain ⟨y1, hy1⟩ : ∃ y, zs'[2 * k' + 1]? = some y := ⟨_, List.getElem?_eq_getElem (by omega)⟩
      have hx1 : vs'[(2 * (k' : Int) + 1).toNat]? = some (.ref y1.1) := by
        rw [show (2 * (k' : Int) + 1).toNat = 2 * k' + 1 from by omega, set_other hv (by omega), hy1]; rfl
      by_cases hc2 : 2 * k' + 2 < zs.length
      · obtain ⟨y2, hy2⟩ : ∃ y, zs'[2 * k' + 2]? = some y := ⟨_, List.getElem?_eq_getElem (by omega)⟩
        have hx2 : vs'[(2 * (k' : Int) + 1 + 1).toNat]? = some (.ref y2.1) := by
          rw [show (2 * (k' : Int) + 1 + 1).toNat = 2 * k' + 2 from by omega, set_other hv (by omega), hy2]; rfl
        w_strict k_steps
        unfold Stop
        k_dflt (refine' HC _ _ _ _ H _ _ (hIt _ (hp.mem_iff.mp (List.mem_of_getElem? hy1))) (hIt _ (hp.mem_iff.mp (List.mem_of_getElem? hy2))) hI' hW' _ _ _ _ _ _ _ _ _ _ _ _ _ _ _ _ _ _ _ _ _ _ ?k1 ?c1 ?c2 ?c3 ?k2 ?k3 ?kI ?k4 ?k5 ?kK ?kd ?ku ?_; (case k1 => k_asm); (case k2 => k_asm); (case k3 => k_asm); (case k4 => k_asm); (case k5 => k_asm); (case kK => first | exact rfl | assumption))
        (case c1 => assumption)
        (case c2 => assumption)
        (case c3 => assumption)
        (case kI => first | assumption | exact kiOf (by assumption) (by k_asm) (by k_asm))
        (case kd => dsimp only [ktrTop]; omega)
        (case ku => dsimp only [ktrTop]; omega)
        refine cmp_use ?_
        intro b W2 h2 tk2 F2 N2 hI2 hW2 hb
        dsimp only
        cases b
        · w_strict k_steps
          refine' WStep.next (by k_asm) (by k_asm) (n' := zs.length - (2 * k' + 2)) (by omega) ⟨2 * k' + 2, swL zs' k' (2 * k' + 2) z y2, vs'.set k' (.ref y2.1), W2, ?t1x1, ?t2x1, ?t3x1, ?t4x1, rfl, ?e1x1, ?e2x1, ?e3x1, ?e4x1, ?e5x1, ?e6x1, rfl, set_swap hv, by rw [swL_get hz' hy2, if_pos rfl], (swL_perm hz' hy2).trans hp, ?hDx1, (by assumption), (by assumption)⟩
          case e4x1 => rw [show (((2 * k' + 2 : Nat)) : Int) = 2 * (k' : Int) + 1 + 1 from by omega]; rfl
          case e6x1 => rw [show (((2 * k' + 2 : Nat)) : Int) = 2 * (k' : Int) + 1 + 1 from by omega]; rfl
          case e1x1 => exact e1
          case e2x1 => exact e2
          case e3x1 => exact e3
          case e5x1 => exact e5
          case hDx1 => exact hD'.step (.inr rfl) hz' hy2 (fun d' y hd hd2 hy => by
            rcases hd2 with rfl | rfl
            · rw [hy1] at hy; cases hy; exact hb
            · exact absurd rfl hd)
        · w_strict k_steps
          refine' WStep.next (by k_asm) (by k_asm) (n' := zs.length - (2 * k' + 1)) (by omega) ⟨2 * k' + 1, swL zs' k' (2 * k' + 1) z y1, vs'.set k' (.ref y1.1), W2, ?t1x2, ?t2x2, ?t3x2, ?t4x2, rfl, ?e1x2, ?e2x2, ?e3x2, ?e4x2, ?e5x2, ?e6x2, rfl, set_swap hv, by rw [swL_get hz' hy1, if_pos rfl], (swL_perm hz' hy1).trans hp, ?hDx2, (by assumption), (by assumption)⟩
          case e4x2 => rw [show (((2 * k' + 1 : Nat)) : Int) = 2 * (k' : Int) + 1 from by omega]; rfl
          case e6x2 => rw [show (((2 * k' + 1 : Nat)) : Int) = 2 * (k' : Int) + 1 from by omega]; rfl
          case e1x2 => exact e1
          case e2x2 => exact e2
          case e3x2 => exact e3
          case e5x2 => exact e5
          case hDx2 => exact hD'.step (.inl rfl) hz' hy1 (fun d' y hd hd2 hy => by
            rcases hd2 with rfl | rfl
            · exact absurd rfl hd
            · rw [hy2] at hy; cases hy; exact hb)
      · w_strict k_steps
        refine' WStep.next (by k_asm) (by k_asm) (n' := zs.length - (2 * k' + 1)) (by omega) ⟨2 * k' + 1, swL zs' k' (2 * k' + 1) z y1, vs'.set k' (.ref y1.1), W', ?t1x3, ?t2x3, ?t3x3, ?t4x3, rfl, ?e1x3, ?e2x3, ?e3x3, ?e4x3, ?e5x3, ?e6x3, rfl, set_swap hv, by rw [swL_get hz' hy1, if_pos rfl], (swL_perm hz' hy1).trans hp, ?hDx3, (by assumption), (by assumption)⟩
        case e4x3 => rw [show (((2 * k' + 1 : Nat)) : Int) = 2 * (k' : Int) + 1 from by omega]; rfl
        case e6x3 => rw [show (((2 * k' + 1 : Nat)) : Int) = 2 * (k' : Int) + 1 from by omega]; rfl
        case e1x3 => exact e1
        case e2x3 => exact e2
        case e3x3 => exact e3
        case e5x3 => exact e5
        case hDx3 => exact hD'.step (.inl rfl) hz' hy1 (fun d' y hd hd2 hy => by
          rcases hd2 with rfl | rfl
          · exact absurd rfl hd
          · have := (List.getElem?_eq_some_iff.mp hy).1; omega)
    · w_strict k_steps
      have hvr : (vs'.set (k' : Int).toNat (.ref z.1)) = refs zs' := hv
      (with_reducible rename News _ _ _ _ => N7)
      rw [hvr] at N7
      unfold Stop
      k_dflt (refine' siftdown w KF Inv It pre d tr HC H c k' zs' W' z _ _ hz' (hD'.leaf (by omega)) (fun x hx => hIt x (hp.mem_iff.mp hx)) (by omega) hI' hW' _ _ _ _ _ _ _ _ _ _ _ _ _ _ _ _ _ _ _ _ _ _ ?k1 ?c1 ?c2 ?c3 ?k2 ?k3 ?kI ?k4 ?k5 ?kK ?kd ?ku ?_; (case k1 => k_asm); (case k2 => k_asm); (case k3 => k_asm); (case k4 => k_asm); (case k5 => k_asm); (case kK => first | exact rfl | assumption))
      (case c1 => assumption)
      (case c2 => assumption)
      (case c3 => assumption)
      (case kI => first | assumption | exact kiOf (by assumption) (by k_asm) (by k_asm))
      (case kd => dsimp only [ktrTop]; omega)
      (case ku => dsimp only [ktrTop]; omega)
      rintro _ _ h5 tk5 F5 N5 KP5 ⟨rfl, zs5, W5, rfl, hp5, hH5, hI5, hW5⟩
      dsimp only
      w_strict k_steps
      exact hret _ _ _ _ (by k_asm) (by k_asm) (kept_ K1' (by k_asm)) ⟨rfl, zs5, W5, rfl, hp5.trans hp, hH5, hI5, hW5⟩
end Mine
end SecS2
section SecS3
theorem Mine.offS3 : True := by
  w_top off
  k_with_none
  trivial
open PySem PySem.W PyProof.Rows PySem.Spec PySem.Calls
set_option maxRecDepth 100000
set_option maxHeartbeats 8000000
namespace Mine
theorem rulesS3 : True := by
  k_with_none
  k_with "call ref" => refine stop ?_
  k_with "exec While Compare" => refine stop ?_
  k_with "exec While" => refine stop ?_
  k_with "compareOp Lt ref ref" => refine stop ?_
  k_with "compareOp Lt ref" => refine stop ?_
  k_with "subscriptTail Name" => (k_here; (refine' kim_list (by k_asm) (by k_mem) (by rfl) (by rfl) (by first | omega | (rw [half_is (by assumption)]; omega)) (by first | omega | (rw [half_is (by assumption)]; omega)) (by assumption) ?_))
  k_with "setItem ref int ref" => (k_here; (refine' setItemK (by k_asm) (by k_asm) (by exact Upd.head (by assumption)) (by omega) (by omega) (by omega) ?_); intro hq9 Fq9 Nq9; (try k_sweep))
  k_with "eval Name" => (k_here; k_dflt (refine' ld (by k_asm) (by first | exact rfl | assumption) ?_; k_whole))
  k_with "call builtin:len" => refine stop ?_
  trivial
section
variable {prog : Program} {w : World} {A : Around} {E : Value → Shared → Prop} {s : Shared} {h₀ : Heap} {L l D : Addr} {m : Str → Option Value} {news news' : List (Addr × Obj)} {vs : List Value} {n : Nat}
theorem appendK {x : Value} {Q : Value → Shared → Prop} (F : Fr h₀ L s.heap m) (N : News h₀ L s.heap news) (U : Upd D (listOf vs.toArray n) (listOf (vs ++ [x]).toArray (n + 1)) news news') (hz : vs.length < 2 ^ 20)
    (h : ∀ h', Fr h₀ L h' m → News h₀ L h' news' → Q .none { s with heap := h' }) : wpAny (model prog w) A (call (.builtin "list.append") [.ref D, x]) Q E s := by
  rw [← List.push_toArray] at U
  exact append_K F N U h (by rw [List.size_toArray, sizeLine_eq]; omega)
theorem last_snoc (p : List Value) (y : Value) : kl_last (p ++ [y]) = some (p, y) := by
  induction p with
  | nil => rfl
  | cons x r ih => show (match kl_last (r ++ [y]) with | some (p, y) => some (x :: p, y) | none => some ([], x)) = _; rw [ih]
theorem popK {y : Value} {Q : Value → Shared → Prop} (F : Fr h₀ L s.heap m) (N : News h₀ L s.heap news) (U : Upd D (listOf (vs ++ [y]).toArray n) (listOf vs.toArray (n + 1)) news news') (hz : vs.length < 2 ^ 20)
    (h : ∀ h', Fr h₀ L h' m → News h₀ L h' news' → Q y { s with heap := h' }) : wpAny (model prog w) A (call (.builtin "list.pop") [.ref D]) Q E s :=
  kl_pop F N (by show kl_last (vs ++ [y]) = _; exact last_snoc vs y) U (by show (vs ++ [y]).length ≤ sizeLine; rw [List.length_append, List.length_singleton, sizeLine_eq]; omega) h
theorem truthyK {b : Bool} {Q : Bool → Shared → Prop} (N : News h₀ L s.heap news) (hm : (l, listOf vs.toArray n) ∈ news) (hz : vs.length < 2 ^ 20) (hb : (!vs.isEmpty) = b) (h : ∀ tk, Q b { s with toks := tk }) :
    wpAny (model prog w) A (truthy (.ref l)) Q E s := by
  refine wpAny_truthy_list (PySem.IsL.isList (n := n) (N _ hm).1) (by rw [List.size_toArray]; omega) ?_
  rw [show vs.toArray.isEmpty = vs.isEmpty from by simp, hb]
  exact h _
end
theorem rulesS3b : True := by
  k_with "call builtin:list.append" => refine stop ?_
  k_with "call builtin:list.pop" => refine stop ?_
  trivial
abbrev PushRet {ι : Type} (Inv : List (Addr × Obj) → Prop) (pre : ι → ι → Prop) (H : Addr) (c : Nat) (zs : List (Addr × ι)) : Value → List (Addr × Obj) → Prop := fun r news' =>
  r = .none ∧ ∃ zs' W', news' = (H, listOf (refs zs').toArray c) :: W' ∧ zs'.Perm zs ∧ HeapL (preZ pre) zs' ∧ Inv W' ∧ ∀ p ∈ W', p.1 ≠ H
abbrev PopRet {ι : Type} (Inv : List (Addr × Obj) → Prop) (pre : ι → ι → Prop) (H : Addr) (zs : List (Addr × ι)) : Value → List (Addr × Obj) → Prop := fun r news' =>
  ∃ x zs' W' c', r = .ref x.1 ∧ zs[0]? = some x ∧ news' = (H, listOf (refs zs').toArray c') :: W' ∧ (x :: zs').Perm zs ∧ HeapL (preZ pre) zs' ∧ Inv W' ∧ ∀ p ∈ W', p.1 ≠ H
theorem heappush {ι : Type} (w : World) (KF : Frag) (Inv : List (Addr × Obj) → Prop) (It : Addr → ι → Prop) (pre : ι → ι → Prop) (d : Nat) (tr : ∀ a b c, pre a b → pre b c → pre a c) (HC : CmpOk w KF Inv It pre d)
    (H : Addr) (c : Nat) (zs : List (Addr × ι)) (W : List (Addr × Obj)) (z : Addr × ι) (hH : HeapL (preZ pre) zs) (hIt : ∀ x ∈ zs, It x.1 x.2) (hIz : It z.1 z.2) (hlen : zs.length < 2 ^ 19) (hI : Inv W) (hW : ∀ p ∈ W, p.1 ≠ H) :
    CtG w KF (call (.ref 79) [.ref H, .ref z.1]) (d + 2) ((H, listOf (refs zs).toArray c) :: W) (PushRet Inv pre H (c + 1) (zs ++ [z])) := by
  have hle : (refs zs).length < 2 ^ 20 := by simp only [refs, List.length_map]; omega
  have hra : refs zs ++ [.ref z.1] = refs (zs ++ [z]) := by simp [refs]
  have hl1 : (refs zs ++ [Value.ref z.1]).length = zs.length + 1 := by simp [refs]
  have hl2 : zs.length + 1 < 2 ^ 20 := by omega
  have hz' : (zs ++ [z])[zs.length]? = some z := by simp
  have hIa : ∀ x ∈ zs ++ [z], It x.1 x.2 := fun x hx => by
    rcases List.mem_append.mp hx with hx | hx
    · exact hIt x hx
    · rw [List.mem_singleton.mp hx]; exact hIz
  unfold CtG; k_fill
  intro p loose mean mg mb dp un gd cn cs a ccd cl outer A₀ base h₀ L m s Q E B C1 C2 C3 F X KIh N T hk hd hu hret
  refine wpAny_call ?_
  k_dflt (refine' codeDefF ?k1 ?k2 ?k3 ?k4 ?k5 ?kA ?kF ?kK ?k6 ?k7 ?k8 ?k9 ?kB ?_ ?c2 ?c3 ?c4 ?c5; (case kA => exact rfl); (case kF => exact rfl); (case kK => assumption); (case k1 => k_asm); (case k2 => k_asm); (case k3 => k_asm); (case k4 => k_asm); (case k5 => k_asm); (case k6 => k_is); (case k7 => k_is); (case k8 => k_room); (case k9 => exact BindsTo.of_eq rfl); (case kB => exact locs rfl); (case c2 => exact rfl); (case c3 => exact rfl); (case c4 => exact rfl); (case c5 => decide); intro g' L' h' FG' F' N' B' X' T' K1'; (try dsimp only); (try k_lift B'); (try k_fold))
  have XK := inOf KIh K1'
  w_strict k_steps
  unfold Stop
  ((refine' appendK ?F ?N ?U ?z ?_; (case F => k_asm); (case N => k_asm); (case U => exact Upd.head (by assumption)); (case z => assumption)); intro h' F' N'; (try k_sweep))
  w_strict k_steps
  unfold Stop
  ((refine' lenList ?k1 ?k2 ?k3 ?k4 ?_; (case k1 => k_asm); (case k2 => k_mem); (case k3 => assumption); (case k4 => assumption)); intro t9 tk9)
  w_strict k_steps
  (with_reducible rename News _ _ _ _ => N7)
  rw [hra] at N7
  rw [show ((zs.length + 1 : Nat) : Int) - 1 = ((zs.length : Nat) : Int) from by omega]
  unfold Stop
  k_dflt (refine' siftdown w KF Inv It pre d tr HC H (c + 1) zs.length (zs ++ [z]) W z _ _ hz' (UpL.leafPush hH) hIa (by rw [List.length_append, List.length_singleton]; omega) hI hW _ _ _ _ _ _ _ _ _ _ _ _ _ _ _ _ _ _ _ _ _ _ ?k1 ?c1 ?c2 ?c3 ?k2 ?k3 ?kI ?k4 ?k5 ?kK ?kd ?ku ?_; (case k1 => k_asm); (case k2 => k_asm); (case k3 => k_asm); (case k4 => k_asm); (case k5 => k_asm); (case kK => first | exact rfl | assumption))
  (case c1 => assumption)
  (case c2 => assumption)
  (case c3 => assumption)
  (case kI => exact kiOf (by assumption) (by k_asm) (by k_asm))
  (case kd => dsimp only [ktrTop]; omega)
  (case ku => dsimp only [ktrTop]; omega)
  rintro _ _ h5 tk5 F5 N5 KP5 ⟨rfl, zs5, W5, rfl, hp5, hH5, hI5, hW5⟩
  dsimp only
  w_strict k_steps
  exact hret _ _ _ _ (by k_asm) (by k_asm) (kept_ K1' (by k_asm)) ⟨rfl, zs5, W5, rfl, hp5, hH5, hI5, hW5⟩
theorem heappop {ι : Type} (w : World) (KF : Frag) (Inv : List (Addr × Obj) → Prop) (It : Addr → ι → Prop) (pre : ι → ι → Prop) (d : Nat) (tr : ∀ a b c, pre a b → pre b c → pre a c) (HC : CmpOk w KF Inv It pre d)
    (H : Addr) (c : Nat) (zs : List (Addr × ι)) (W : List (Addr × Obj)) (hH : HeapL (preZ pre) zs) (hIt : ∀ x ∈ zs, It x.1 x.2) (hne : zs ≠ []) (hlen : zs.length < 2 ^ 19) (hI : Inv W) (hW : ∀ p ∈ W, p.1 ≠ H) :
    CtG w KF (call (.ref 86) [.ref H]) (d + 3) ((H, listOf (refs zs).toArray c) :: W) (PopRet Inv pre H zs) := by
  obtain ⟨ys, y, rfl⟩ : ∃ ys y, zs = ys ++ [y] := ⟨zs.dropLast, zs.getLast hne, (List.dropLast_concat_getLast hne).symm⟩
  rw [List.length_append, List.length_singleton] at hlen
  have hle : (refs ys).length < 2 ^ 20 := by simp only [refs, List.length_map]; omega
  have hra : refs (ys ++ [y]) = refs ys ++ [.ref y.1] := by simp [refs]
  rw [hra]
  unfold CtG; k_fill
  intro p loose mean mg mb dp un gd cn cs a ccd cl outer A₀ base h₀ L m s Q E B C1 C2 C3 F X KIh N T hk hd hu hret
  refine wpAny_call ?_
  k_dflt (refine' codeDefF ?k1 ?k2 ?k3 ?k4 ?k5 ?kA ?kF ?kK ?k6 ?k7 ?k8 ?k9 ?kB ?_ ?c2 ?c3 ?c4 ?c5; (case kA => exact rfl); (case kF => exact rfl); (case kK => assumption); (case k1 => k_asm); (case k2 => k_asm); (case k3 => k_asm); (case k4 => k_asm); (case k5 => k_asm); (case k6 => k_is); (case k7 => k_is); (case k8 => k_room); (case k9 => exact BindsTo.of_eq rfl); (case kB => exact locs rfl); (case c2 => exact rfl); (case c3 => exact rfl); (case c4 => exact rfl); (case c5 => decide); intro g' L' h' FG' F' N' B' X' T' K1'; (try dsimp only); (try k_lift B'); (try k_fold))
  have XK := inOf KIh K1'
  by_cases hy : ys = []
  · subst hy
    have hb : (!(refs ([] : List (Addr × ι))).isEmpty) = false := rfl
    w_strict k_steps
    unfold Stop
    ((refine' popK ?F ?N ?U ?z ?_; (case F => k_asm); (case N => k_asm); (case U => exact Upd.head (by assumption)); (case z => assumption)); intro h' F' N'; (try k_sweep))
    w_strict k_steps
    exact hret _ _ _ _ (by k_asm) (by k_asm) (kept_ K1' (by k_asm)) ⟨y, [], W, _, rfl, rfl, rfl, .refl _, (fun i x y' _ h1 => by simp at h1), hI, hW⟩
  · obtain ⟨r, ys', rfl⟩ : ∃ r ys', ys = r :: ys' := by cases ys with | nil => exact absurd rfl hy | cons r q => exact ⟨r, q, rfl⟩
    have hb : (!(refs (r :: ys')).isEmpty) = true := rfl
    have hx0 : (refs (r :: ys'))[(0 : Int).toNat]? = some (.ref r.1) := rfl
    w_strict k_steps
    unfold Stop
    ((refine' popK ?F ?N ?U ?z ?_; (case F => k_asm); (case N => k_asm); (case U => exact Upd.head (by assumption)); (case z => assumption)); intro h' F' N'; (try k_sweep))
    w_strict k_steps
    (with_reducible rename News _ _ _ _ => N7)
    replace N7 : News _ _ _ ((H, listOf (refs (y :: ys')).toArray (c + 1)) :: W) := N7
    have hD := DownL.ofPop (pre := preZ pre) hH rfl hy
    have hIa : ∀ x ∈ y :: ys', It x.1 x.2 := fun x hx => hIt x (by simp only [List.mem_cons, List.mem_append] at hx ⊢; rcases hx with rfl | hx <;> simp_all)
    unfold Stop
    k_dflt (refine' siftup w KF Inv It pre d tr HC H (c + 1) (y :: ys') W y _ rfl hD hIa (by simp only [List.length_cons] at hlen ⊢; omega) hI hW _ _ _ _ _ _ _ _ _ _ _ _ _ _ _ _ _ _ _ _ _ _ ?k1 ?c1 ?c2 ?c3 ?k2 ?k3 ?kI ?k4 ?k5 ?kK ?kd ?ku ?_; (case k1 => k_asm); (case k2 => k_asm); (case k3 => k_asm); (case k4 => k_asm); (case k5 => k_asm); (case kK => first | exact rfl | assumption))
    (case c1 => assumption)
    (case c2 => assumption)
    (case c3 => assumption)
    (case kI => exact kiOf (by assumption) (by k_asm) (by k_asm))
    (case kd => dsimp only [ktrTop]; omega)
    (case ku => dsimp only [ktrTop]; omega)
    rintro _ _ h5 tk5 F5 N5 KP5 ⟨rfl, zs5, W5, rfl, hp5, hH5, hI5, hW5⟩
    dsimp only
    w_strict k_steps
    exact hret _ _ _ _ (by k_asm) (by k_asm) (kept_ K1' (by k_asm)) ⟨r, zs5, W5, _, rfl, rfl, rfl, (hp5.cons r).trans (.cons r (List.perm_append_comm (l₁ := [y]))), hH5, hI5, hW5⟩
end Mine
end SecS3
section SecCL
theorem Mine.offCL : True := by
  w_top off
  k_with_none
  trivial
open PySem PySem.W PyProof.Rows PySem.Spec PySem.Calls PySem.AutoSeq1 PySem.MeetsSeq
set_option maxRecDepth 100000
set_option maxHeartbeats 8000000
namespace Mine
def IntV (v : Value) : Prop := ∃ x t, v = .int x t
theorem lt_loop (l b : Addr) (items items2 : Array Value) (n n2 : Nat) (hsz : items.size = items2.size) (h1 : ∀ j (h : j < items.size), IntV items[j]) (h2 : ∀ j (h : j < items2.size), IntV items2[j]) (k : Nat) :
    ∀ i : Nat, items.size - i = k → Meets (Builtin.«list.__eq__.loop» ⟨[.ref l, .ref b, rawInt i, rawInt 0], []⟩)
      (fun _ R s => s.heap.get? l = some { cls := .type "list", dict := none, data := .seq items n, slots := #[] } ∧ s.heap.get? b = some { cls := .type "list", dict := none, data := .seq items2 n2, slots := #[] } ∧
        ∀ x, R (.ok (.ret (.bool x))) s) := by
  induction k with
  | zero =>
    intro i hk prog w A R s h
    obtain ⟨hp, g, d, tk, os⟩ := s; obtain ⟨hl, hb, h⟩ := h
    wp_walk using wpAny_loadPart' hl, wpAny_loadPart' hb
    have hi1 : items[((i : Nat) : Int).toNat]? = none := by simp; omega
    have hi2 : items2[((i : Nat) : Int).toNat]? = none := by simp; omega
    rw [hi1, hi2]
    wp_walk using wpAny_loadPart' hl, wpAny_loadPart' hb
    exact h _
  | succ k ih =>
    intro i hk prog w A R s h
    obtain ⟨hp, g, d, tk, os⟩ := s; obtain ⟨hl, hb, h⟩ := h
    wp_walk using wpAny_loadPart' hl, wpAny_loadPart' hb
    have hlt : i < items.size := by omega
    have hlt2 : i < items2.size := by omega
    obtain ⟨x, tx, ex⟩ := h1 i hlt
    obtain ⟨y, ty, ey⟩ := h2 i hlt2
    have hi1 : items[((i : Nat) : Int).toNat]? = some (.int x tx) := by simp [hlt, ex]
    have hi2 : items2[((i : Nat) : Int).toNat]? = some (.int y ty) := by simp [hlt2, ey]
    have hc : ((i : Int) + 1) = ((i + 1 : Nat) : Int) := by push_cast; rfl
    rw [hi1, hi2]
    refine wpAny_bind (wpAny_eqBool_int ?_)
    cases hb' : (x == y) with
    | true =>
      wp_walk
      rw [hc]
      exact ⟨plainId_quiet PySem.MeetsSeq3.plain_eq_loop _, codeAny_builtin PySem.MeetsSeq3.entry_eq_loop (by
        rw [Around.under_plainId PySem.MeetsSeq3.plain_eq_loop _]
        exact ih (i + 1) (by omega) prog w A R _ ⟨hl, hb, h⟩)⟩
    | false =>
      wp_walk using wpAny_loadPart' hl, wpAny_loadPart' hb
      rw [hi1, hi2]
      refine wpAny_bind (show wpAny _ _ (compareOp .Lt (.int x tx) (.int y ty)) _ _ _ from lt_int ?_)
      wp_walk
      exact h _
theorem list_lt (l b : Addr) (items items2 : Array Value) (n n2 : Nat) (hsz : items.size = items2.size) (h1 : ∀ j (h : j < items.size), IntV items[j]) (h2 : ∀ j (h : j < items2.size), IntV items2[j]) :
    Meets (Builtin.«list.__lt__» ⟨[.ref l, .ref b], []⟩)
      (fun _ R s => s.heap.get? l = some { cls := .type "list", dict := none, data := .seq items n, slots := #[] } ∧ s.heap.get? b = some { cls := .type "list", dict := none, data := .seq items2 n2, slots := #[] } ∧
        ∀ x, R (.ok (.ret (.bool x))) s) := by
  intro prog w A R s h
  obtain ⟨hp, g, d, tk, os⟩ := s; obtain ⟨hl, hb, h⟩ := h
  have f3 := AutoSeq1.sub_list_list
  wp_walk using wpAny_loadPart' hl, wpAny_loadPart' hb
  exact ⟨plainId_quiet PySem.MeetsSeq3.plain_eq_loop _, codeAny_builtin PySem.MeetsSeq3.entry_eq_loop (by
    rw [Around.under_plainId PySem.MeetsSeq3.plain_eq_loop _]
    exact lt_loop l b items items2 n n2 hsz h1 h2 _ 0 rfl prog w A R _ ⟨hl, hb, h⟩)⟩
section
variable {prog : Program} {w : World} {A : Around} {E : Value → Shared → Prop} {s : Shared} {Q : Value → Shared → Prop}
theorem listLt {l b : Addr} {items items2 : Array Value} {n n2 : Nat} (hl : s.heap.get? l = some (listOf items n)) (hb : s.heap.get? b = some (listOf items2 n2)) (hsz : items.size = items2.size) (h1 : ∀ j (h : j < items.size), IntV items[j]) (h2 : ∀ j (h : j < items2.size), IntV items2[j]) (hu : A.units < cLine)
    (h : ∀ x, Q (.bool x) s) : wpAny (model prog w) A (richCompare .Lt (.ref l) (.ref b)) Q E s :=
  by
  refine richCompare_meets_room (op := .Lt) ⟨_, hl, rfl⟩ ⟨_, hb, rfl⟩ F.slot_list_lt F.entry_list_lt (F.args_list_lt_2 _ _) (list_lt l b items items2 n n2 hsz h1 h2) ?_ hu
  refine ⟨hl, hb, fun x => ?_⟩
  show _ ∧ _
  exact ⟨(fun e => by cases e), h x⟩
end
end Mine
end SecCL
section SecTL
theorem Mine.offTL : True := by
  w_top off
  k_with_none
  trivial
open PySem PySem.W PyProof.Rows PySem.Spec PySem.Calls
set_option maxRecDepth 100000
set_option maxHeartbeats 8000000
namespace Mine
abbrev tupO (xs : Array Value) : Obj := { cls := .type "tuple", data := .seq xs }
section
variable {prog : Program} {w : World} {A : Around} {E : Value → Shared → Prop} {s : Shared} {Q : Value → Shared → Prop}
theorem tupLt3 {a b : Addr} {x1 x2 x3 y1 y2 y3 : Value} (ha : s.heap.get? a = some (tupO #[x1, x2, x3])) (hb : s.heap.get? b = some (tupO #[y1, y2, y3])) (hu : A.units < cLine)
    (h : wpAny (model prog w) A.in1 (eqBool x1 y1) (fun e s1 => if e = true then
        wpAny (model prog w) A.in1 (eqBool x2 y2) (fun e s2 => if e = true then
          wpAny (model prog w) A.in1 (eqBool x3 y3) (fun e s3 => if e = true then Q (.bool false) s3
            else wpAny (model prog w) A.in1 (richCompare .Lt x3 y3) (fun v s' => v ≠ .notImplemented ∧ Q v s') E s3) E s2
          else wpAny (model prog w) A.in1 (richCompare .Lt x2 y2) (fun v s' => v ≠ .notImplemented ∧ Q v s') E s2) E s1
        else wpAny (model prog w) A.in1 (richCompare .Lt x1 y1) (fun v s' => v ≠ .notImplemented ∧ Q v s') E s1) E s) :
    wpAny (model prog w) A (richCompare .Lt (.ref a) (.ref b)) Q E s := by
  have hTa : s.TypeIs (.ref a) "tuple" := ⟨_, ha, rfl⟩
  have hTb : s.TypeIs (.ref b) "tuple" := ⟨_, hb, rfl⟩
  refine wpAny_richCompare_same_room hTa hTb F.slot_tuple_lt (wpAny_call_entry F.slot_tuple_lt hTa F.entry_tuple_lt ?_ (F.args_tuple_lt_2 _ _)) hu
  show wpAny _ _ (isInstance (.ref b) (.type "tuple") >>= _) _ _ s
  refine wpAny_bind (wpAny_isInstance hTb isSubtype_tuple_tuple ?_)
  simp only [Bool.not_true, Bool.false_eq_true, if_false]
  refine wpAny_bind (wpAny_tupleItemsOf ha rfl ?_)
  refine wpAny_bind (wpAny_tupleItemsOf hb rfl ?_)
  refine wpAny_bind ?_
  simp only [List.zip_cons_cons, List.zip_nil_right, List.forIn_cons, List.forIn_nil]
  refine wpAny_bind (wpAny_bind (wpAny_mono h (fun e s1 h1 => ?_) fun _ _ e => e))
  cases e with
  | false =>
    simp only [Bool.false_eq_true, if_false] at h1
    simp only [Bool.not_false, if_true]
    refine wpAny_bind (wpAny_rule (wpAny_bind (wpAny_mono h1 (fun v s' hv => ?_) fun _ _ e => e)))
    exact wpAny_bind (wpAny_pure (wpAny_pure (wpAny_pure (wpAny_pure ⟨v, rfl, hv⟩))))
  | true =>
    simp only [if_true] at h1
    simp only [Bool.not_true, Bool.false_eq_true, if_false]
    refine wpAny_pure ?_
    refine wpAny_bind (wpAny_bind (wpAny_mono h1 (fun e s2 h2 => ?_) fun _ _ e => e))
    cases e with
    | false =>
      simp only [Bool.false_eq_true, if_false] at h2
      simp only [Bool.not_false, if_true]
      refine wpAny_bind (wpAny_rule (wpAny_bind (wpAny_mono h2 (fun v s' hv => ?_) fun _ _ e => e)))
      exact wpAny_bind (wpAny_pure (wpAny_pure (wpAny_pure (wpAny_pure ⟨v, rfl, hv⟩))))
    | true =>
      simp only [if_true] at h2
      simp only [Bool.not_true, Bool.false_eq_true, if_false]
      refine wpAny_pure ?_
      refine wpAny_bind (wpAny_bind (wpAny_mono h2 (fun e s3 h3 => ?_) fun _ _ e => e))
      cases e with
      | false =>
        simp only [Bool.false_eq_true, if_false] at h3
        simp only [Bool.not_false, if_true]
        refine wpAny_bind (wpAny_rule (wpAny_bind (wpAny_mono h3 (fun v s' hv => ?_) fun _ _ e => e)))
        exact wpAny_bind (wpAny_pure (wpAny_pure (wpAny_pure (wpAny_pure ⟨v, rfl, hv⟩))))
      | true =>
        simp only [if_true] at h3
        simp only [Bool.not_true, Bool.false_eq_true, if_false]
        refine wpAny_pure ?_
        exact wpAny_pure (wpAny_pure ⟨_, rfl, (fun e => by cases e), h3⟩)
end
end Mine
end SecTL
section SecK1
theorem Mine.offK1 : True := by
  w_top off
  k_with_none
  trivial
open PySem PySem.W PyProof.Rows PySem.Spec PySem.Calls
set_option maxRecDepth 100000
set_option maxHeartbeats 8000000
namespace Mine
noncomputable def clsBody (P : Params) : List Stmt := match (hd1.heap_39 P).lookup 63 with
  | some ⟨_, _, .func fd, _⟩ => (match fd.body with | .stmts (.ClassDef _ _ _ b _ _ _ _ _ _ _ :: _) => b | _ => [])
  | _ => []
noncomputable def fnAt (P : Params) (i : Nat) : Option (Arguments × List Stmt × Scope) := match (clsBody P)[i]? with
  | some (.FunctionDef _ a b _ _ _ s _ _ _) => some (a, b, s)
  | _ => none
theorem explUse {P : Params} {G : Prop} {oc : Value} {od : Option Addr} {nm ql : Str} {ps : Arguments} {c1 c8 : Str} {c2 : List Expr} {c3 : List Keyword} {B : List Stmt} {c4 : List Expr} {c5 : List TypeParam} {c6 : Scope} {c7 : Option Scope} {c9 : List Str} {c10 : Pos} {rr : List Stmt} {sc : Scope} {dV kV doc pm cdv ct : Value} {an : Option Addr} {osl : Array (Option Value)}
    (h : (hd1.heap_39 P).lookup 63 = some ⟨oc, od, .func (fnOf nm ql ps (.ClassDef c1 c2 c3 B c4 c5 c6 c7 c8 c9 c10 :: rr) sc dV kV doc pm an cdv ct), osl⟩) (k : clsBody P = B → G) : G :=
  k (by unfold clsBody; rw [h])
theorem fnAtEq {P : Params} {B : List Stmt} {i : Nat} {a a' : Arguments} {b b' : List Stmt} {sc s' : Scope} {n v : Str} {d : List Expr} {r : Option Expr} {t : List TypeParam} {u : Option Scope} {p : Pos} (h : fnAt P i = some (a, b, sc)) (hB : clsBody P = B) (hg : B[i]? = some (.FunctionDef n a' b' d r t s' u v p)) : a = a' ∧ b = b' ∧ sc = s' := by
  unfold fnAt at h
  rw [hB, hg] at h
  cases h
  exact ⟨rfl, rfl, rfl⟩
structure FnIs (P : Params) (KF : Frag) (f : Addr) (i : Nat) (cel : Addr) (a : Arguments) (b : List Stmt) (sc : Scope) (nm q : Str) (doc pm cdv ct oc : Value) (od : Option Addr) (osl : Array (Option Value)) : Prop where
  ast : fnAt P i = some (a, b, sc)
  obj : KF.lookup f = some ⟨oc, od, .func (fnX nm q a b sc [(Str.ofString "mycmp", cel)] .none .none doc pm none cdv ct), osl⟩
  code : codeIn KF cdv q = true
structure FnI0 (P : Params) (KF : Frag) (f : Addr) (i : Nat) (a : Arguments) (b : List Stmt) (sc : Scope) (nm q : Str) (doc pm cdv ct oc : Value) (od : Option Addr) (osl : Array (Option Value)) : Prop where
  ast : fnAt P i = some (a, b, sc)
  obj : KF.lookup f = some ⟨oc, od, .func (fnX nm q a b sc [] .none .none doc pm none cdv ct), osl⟩
  code : codeIn KF cdv q = true
structure KC (P : Params) (KF : Frag) (C d fI fL fE cel fm : Addr) : Prop where
  made : makesIn KF C = true
  keep : keepIn KF (.ref C) = true
  init : findIn KF (.ref C) "__init__" = some (some (.ref fI))
  initF : isFn KF (.ref fI) = true
  lt : findIn KF (.ref C) (cmpInfo .Lt).2.1 = some (some (.ref fL))
  ltF : isFn KF (.ref fL) = true
  eq : findIn KF (.ref C) (cmpInfo .Eq).2.1 = some (some (.ref fE))
  eqF : isFn KF (.ref fE) = true
  pg : plainGet KF C (Str.ofString "obj") = true
  ic : isClsIn KF C = true
  fo : findIn KF (.ref C) (Str.ofString "obj") = some (some (.ref d))
  sg : specialIn KF (.ref d) "__get__" = some (some (.builtin "member_descriptor.__get__"))
  tk : takesIn KF (.ref d) = some true
  sl : slotIn KF d C = some 0
  sa : findIn KF (.ref C) "__setattr__" = some (some (.builtin "object.__setattr__"))
  po : plainOver KF C = true
  ta : takerIn KF C (Str.ofString "obj") = some (some (.ref d))
  ty : typeIn KF (.ref d) = some (.type "member_descriptor")
  cell : KF.lookup cel = some ⟨.type "cell", none, .cell (some (.ref fm)), #[]⟩
  fnI : ∃ a b sc nm q doc pm cdv ct oc od osl, FnI0 P KF fI 2 a b sc nm q doc pm cdv ct oc od osl
  fnL : ∃ a b sc nm q doc pm cdv ct oc od osl, FnIs P KF fL 3 cel a b sc nm q doc pm cdv ct oc od osl
  fnE : ∃ a b sc nm q doc pm cdv ct oc od osl, FnIs P KF fE 5 cel a b sc nm q doc pm cdv ct oc od osl
abbrev keyO (C dx : Addr) (v : Value) : Obj := { cls := .ref C, dict := some dx, data := .plain, slots := #[some v] }
def KeyIn (G : Frag) (C k : Addr) (v : Value) : Prop := ∃ dx, G.lookup k = some (keyO C dx v) ∧ G.lookup dx = some emptyDict
abbrev Sub (KF G : Frag) : Prop := ∀ b o, KF.lookup b = some o → G.lookup b = some o
def MyOk {ι : Type} (w : World) (G : Frag) (fm : Addr) (Inv : List (Addr × Obj) → Prop) (val : Value → ι → Prop) (sg : ι → ι → Int → Prop) (d : Nat) : Prop :=
  ∀ v1 a1 v2 a2 H o W, val v1 a1 → val v2 a2 → Inv W → (∀ p ∈ W, p.1 ≠ H) → CtG w G (call (.ref fm) [v1, v2]) d ((H, o) :: W) (fun r news' => ∃ c t W', r = .int c t ∧ news' = (H, o) :: W' ∧ Inv W' ∧ (∀ p ∈ W', p.1 ≠ H) ∧ sg a1 a2 c)
theorem callF {prog : Program} {w : World} {A₀ A : Around} {s : Shared} {base h₀ : Heap} {outer : List Env} {L : Addr} {m : Str → Option Value} {env : Env} {news : List (Addr × Obj)} {R : Result → Shared → Prop} {K : Frag} {p : Program} {loose : List Str} {mean : ExcName → Option Value} {mg mb : Str → Option Value}
    {name qual : Str} {params : Arguments} {body : List Stmt} {scope : Scope} {cl : List (Str × Addr)} {dV kV doc pm cdv ct oc : Value} {an od : Option Addr} {osl : Array (Option Value)} {f : Addr} {args : Args} {binds : List (Str × Value)}
    (B : Below A₀ base outer h₀) (F : Fr h₀ L s.heap m) (X₀ : K.In h₀) (N : News h₀ L s.heap news) (T : Top p loose mean mg mb h₀) (hA : A.frames = some (env :: outer)) (hf : env.frame = some L) (hke : env.scope.kind = .function)
    (ho : s.heap.get? f = some ⟨oc, od, .func (fnX name qual params body scope cl dV kV doc pm an cdv ct), osl⟩) (hcd : s.heap.CodeRec cdv qual) (hroom : A.depth < recursionLimit)
    (hbind : BindsTo s (fnX name qual params body scope cl dV kV doc pm an cdv ct) args binds) (hloc : ∀ y ∈ binds, scope.names.lookup y.1 = some .local)
    (h : ∀ g L' h₁, Fr h₀ L g m → Fr g L' h₁ (fun y => binds.reverse.lookup y) → News g L' h₁ news → Below A base (env :: outer) g → K.In g → Top p loose mean mg mb g → Kept s.heap news g →
      wpAny (model prog w) (A.deeper (envX qual scope L' f cdv cl)) (execs body (envX qual scope L' f cdv cl))
        (fun fl s' => LeaveK h₀ L m g R (match fl with | .ret v => v | _ => .none) s')
        (fun e s' => wpAny (model prog w) (A.deeper (envX qual scope L' f cdv cl)) (leaving (envX qual scope L' f cdv cl) e) (fun _ s'' => R (.error e) s'') (fun e' s'' => R (.error e') s'') s')
        { s with heap := h₁, toks := s.toks + binds.length })
    (hco : scope.isCoroutine = false) (hgen : scope.isGenerator = false) (hk : scope.kind = .function)
    (hcell : ∀ x ∈ scope.names, x.2 ≠ .cell) : codeAny (model prog w) A (.call (.ref f) args) R s := by
  obtain ⟨FG, BG, st, lv⟩ := groundX (R := R) B F N hA hf hke
  refine codeAny_call_def (fd := fnX name qual params body scope cl dV kV doc pm an cdv ct) (body := body) (binds := binds) hroom ho rfl (T.nolimit.keeps F.keep) hcd rfl hbind hcell hloc (fun h₁ hns hk₁ => ?_) hco hgen hk
  exact wpAny_mono (h _ s.heap.objs.size h₁ FG ⟨hns, fun b o e => hk₁ b o (of_hideAll _ e), Nat.le_of_eq (hideAll_size _ _)⟩
    (fun p hp => ⟨hk₁ _ _ (N p hp).1, Nat.ne_of_lt (Heap.lt_size (N p hp).1), hideAll_none _ (List.mem_map_of_mem hp)⟩) BG (X₀.keeps st) (T.keeps st)
    (fun b o e ne => hideAll_get _ e fun q => by obtain ⟨p, hp, q⟩ := List.mem_map.mp q; exact ne p hp q)) (fun fl s' hl => lv _ _ hl) fun _ _ y => y
theorem instOf {G : Frag} {h : Heap} {C k dx : Addr} {v : Value} (X : InW G h) (h1 : G.lookup k = some (keyO C dx v)) (h2 : G.lookup dx = some emptyDict) : InstAt h k (keyO C dx v) C (some emptyDict) := ⟨X _ _ h1, rfl, rfl, X _ _ h2⟩
theorem inW_keeps {G : Frag} {g h : Heap} {L : Addr} {m : Str → Option Value} (X : InW G g) (F : Fr g L h m) : InW G h := fun b o e => F.keep b o (X b o e)
theorem freeK {prog : Program} {w : World} {A : Around} {E : Value → Shared → Prop} {s : Shared} {L a : Addr} {cn : Str} {cs : Scope} {ccd : Value} {cl : List (Str × Addr)} {x : Str} {pos : Pos} {c : Addr} {o : Obj} {v : Value} {Q : Value → Shared → Prop}
    (hk : cs.kind = .function) (hx : (envX cn cs L a ccd cl).kindOf x = some .free) (hc : cl.lookup x = some c) (ho : s.heap.get? c = some o) (hd : o.data = .cell (some v)) (h : Q v s)
    (hb : (x == ("__debug__" : Str)) = false := by decide) (hn : (x == ("__classdict__" : Str)) = false := by decide) :
    wpAny (model prog w) A (eval (.Name x pos) (envX cn cs L a ccd cl)) Q E s := wpAny_Name (wpAny_loadName_free hk hx hc ⟨o, ho, hd⟩ h hn) hb
theorem nmL {prog : Program} {w : World} {A : Around} {E : Value → Shared → Prop} {s : Shared} {h₀ : Heap} {m : Str → Option Value} {L a : Addr} {cn : Str} {cs : Scope} {ccd : Value} {cl : List (Str × Addr)} {x : Str} {pos : Pos} {v : Value} {Q : Value → Shared → Prop}
    (F : Fr h₀ L s.heap m) (hk : cs.kind = .function) (hx : (envX cn cs L a ccd cl).kindOf x = some .local) (hv : m x = some v) (h : Q v s) (hd : (x == ("__debug__" : Str)) = false := by decide) :
    wpAny (model prog w) A (eval (.Name x pos) (envX cn cs L a ccd cl)) Q E s := nameX_L F hv h hk hx hd
end Mine
end SecK1
section SecK2
theorem Mine.offK2 : True := by
  w_top off
  k_with_none
  trivial
open PySem PySem.W PyProof.Rows PySem.Spec PySem.Calls
set_option maxRecDepth 100000
set_option maxHeartbeats 8000000
namespace Mine
theorem rulesK2 : True := by
  k_with_none
  k_with "call ref" => refine stop ?_
  k_with "getAttr ref" => refine stop ?_
  k_with "eval Name" => (k_here; k_dflt (refine' freeK (by rfl) (by rfl) (by rfl) (by exact inW_keeps (by assumption) (by k_asm) _ _ (by assumption)) (by rfl) ?_; k_whole))
  trivial
theorem kLt {ι : Type} (w : World) (KF G : Frag) (C d fI fL fE cel : Addr) (kc : KC w.params KF C d fI fL fE cel 107) (sub : Sub KF G) (Inv : List (Addr × Obj) → Prop) (val : Value → ι → Prop) (sg : ι → ι → Int → Prop) (dm : Nat) (HM : MyOk w G 107 Inv val sg dm)
    (k1 k2 : Addr) (v1 v2 : Value) (a1 a2 : ι) (H : Addr) (o : Obj) (W : List (Addr × Obj)) (hk1 : KeyIn G C k1 v1) (hk2 : KeyIn G C k2 v2) (hv1 : val v1 a1) (hv2 : val v2 a2) (hh1 : handedIn v1 = true) (hh2 : handedIn v2 = true) (hI : Inv W) (hW : ∀ p ∈ W, p.1 ≠ H) :
    CtG w G (call (.ref fL) [.ref k1, .ref k2]) (dm + 1) ((H, o) :: W) (fun r news' => ∃ c W', r = .bool (decide (c < 0)) ∧ sg a1 a2 c ∧ news' = (H, o) :: W' ∧ Inv W' ∧ ∀ p ∈ W', p.1 ≠ H) := by
  obtain ⟨a, b, sc, nm, q, doc, pm, cdv, ct, oc, od, osl, hast, hobj, hcode⟩ := kc.fnL
  have hcl := sub _ _ kc.cell
  obtain ⟨dx1, hk1, hd1⟩ := hk1
  obtain ⟨dx2, hk2, hd2⟩ := hk2
  unfold CtG; k_fill
  refine' explUse (P := w.params) ?h ?_
  case h => k_is
  intro hB
  obtain ⟨rfl, rfl, rfl⟩ := fnAtEq hast hB rfl
  clear hB hast
  intro p loose mean mg mb dp un gd cn cs a ccd cl outer A₀ base h₀ L m s Q E B C1 C2 C3 F X KIh N T hk hd hu hret
  refine wpAny_call ?_
  have hXs : InW G s.heap := fun b o e => (KIh b o e).1
  k_dflt (refine' callF ?k1 ?k2 ?k3 ?k4 ?k5 ?kA ?kF ?kK (hXs _ _ (sub _ _ hobj)) (codeRec_of (K := KF) (fun b o e => hXs b o (sub b o e)) hcode) ?k8 ?k9 ?kB ?_ ?c2 ?c3 ?c4 ?c5; (case kA => exact rfl); (case kF => exact rfl); (case kK => assumption); (case k1 => k_asm); (case k2 => k_asm); (case k3 => k_asm); (case k4 => k_asm); (case k5 => k_asm); (case k8 => k_room); (case k9 => exact BindsTo.of_eq rfl); (case kB => exact locs rfl); (case c2 => exact rfl); (case c3 => exact rfl); (case c4 => exact rfl); (case c5 => decide); intro g' L' h' FG' F' N' B' X' T' K1'; (try dsimp only); (try k_lift B'); (try k_fold))
  have XK := inOf KIh K1'
  w_strict k_steps
  unfold Stop
  have XF : InW KF g' := fun b o e => XK b o (sub b o e)
  refine get_slot (K := KF) F' XF (instOf (inW_keeps XK F') hk1 hd1) kc.pg kc.ic kc.fo kc.sg kc.tk kc.sl rfl hh1 ?_
  w_strict k_steps
  unfold Stop
  refine get_slot (K := KF) F' XF (instOf (inW_keeps XK F') hk2 hd2) kc.pg kc.ic kc.fo kc.sg kc.tk kc.sl rfl hh2 ?_
  w_strict k_steps
  unfold Stop
  k_dflt (refine' HM v1 a1 v2 a2 H o W hv1 hv2 hI hW _ _ _ _ _ _ _ _ _ _ _ _ _ _ _ _ _ _ _ _ _ _ ?k1 ?c1 ?c2 ?c3 ?k2 ?k3 ?kI ?k4 ?k5 ?kK ?kd ?ku ?_; (case k1 => k_asm); (case k2 => k_asm); (case k3 => k_asm); (case k4 => k_asm); (case k5 => k_asm); (case kK => first | exact rfl | assumption))
  (case c1 => assumption)
  (case c2 => assumption)
  (case c3 => assumption)
  (case kI => exact kiOf (by assumption) (by k_asm) (by k_asm))
  (case kd => dsimp only [ktrTop]; omega)
  (case ku => dsimp only [ktrTop]; omega)
  rintro _ _ h2 tk2 F2 N2 KP2 ⟨c, t, W2, rfl, rfl, hI2, hW2, hs2⟩
  dsimp only
  w_strict k_steps
  exact hret _ _ _ _ (by k_asm) (by k_asm) (kept_ K1' (by k_asm)) ⟨c, W2, rfl, hs2, rfl, hI2, hW2⟩
theorem kEq {ι : Type} (w : World) (KF G : Frag) (C d fI fL fE cel : Addr) (kc : KC w.params KF C d fI fL fE cel 107) (sub : Sub KF G) (Inv : List (Addr × Obj) → Prop) (val : Value → ι → Prop) (sg : ι → ι → Int → Prop) (dm : Nat) (HM : MyOk w G 107 Inv val sg dm)
    (k1 k2 : Addr) (v1 v2 : Value) (a1 a2 : ι) (H : Addr) (o : Obj) (W : List (Addr × Obj)) (hk1 : KeyIn G C k1 v1) (hk2 : KeyIn G C k2 v2) (hv1 : val v1 a1) (hv2 : val v2 a2) (hh1 : handedIn v1 = true) (hh2 : handedIn v2 = true) (hI : Inv W) (hW : ∀ p ∈ W, p.1 ≠ H) :
    CtG w G (call (.ref fE) [.ref k1, .ref k2]) (dm + 1) ((H, o) :: W) (fun r news' => ∃ c W', r = .bool (decide (c = 0)) ∧ sg a1 a2 c ∧ news' = (H, o) :: W' ∧ Inv W' ∧ ∀ p ∈ W', p.1 ≠ H) := by
  obtain ⟨a, b, sc, nm, q, doc, pm, cdv, ct, oc, od, osl, hast, hobj, hcode⟩ := kc.fnE
  have hcl := sub _ _ kc.cell
  obtain ⟨dx1, hk1, hd1⟩ := hk1
  obtain ⟨dx2, hk2, hd2⟩ := hk2
  unfold CtG; k_fill
  refine' explUse (P := w.params) ?h ?_
  case h => k_is
  intro hB
  obtain ⟨rfl, rfl, rfl⟩ := fnAtEq hast hB rfl
  clear hB hast
  intro p loose mean mg mb dp un gd cn cs a ccd cl outer A₀ base h₀ L m s Q E B C1 C2 C3 F X KIh N T hk hd hu hret
  refine wpAny_call ?_
  have hXs : InW G s.heap := fun b o e => (KIh b o e).1
  k_dflt (refine' callF ?k1 ?k2 ?k3 ?k4 ?k5 ?kA ?kF ?kK (hXs _ _ (sub _ _ hobj)) (codeRec_of (K := KF) (fun b o e => hXs b o (sub b o e)) hcode) ?k8 ?k9 ?kB ?_ ?c2 ?c3 ?c4 ?c5; (case kA => exact rfl); (case kF => exact rfl); (case kK => assumption); (case k1 => k_asm); (case k2 => k_asm); (case k3 => k_asm); (case k4 => k_asm); (case k5 => k_asm); (case k8 => k_room); (case k9 => exact BindsTo.of_eq rfl); (case kB => exact locs rfl); (case c2 => exact rfl); (case c3 => exact rfl); (case c4 => exact rfl); (case c5 => decide); intro g' L' h' FG' F' N' B' X' T' K1'; (try dsimp only); (try k_lift B'); (try k_fold))
  have XK := inOf KIh K1'
  w_strict k_steps
  unfold Stop
  have XF : InW KF g' := fun b o e => XK b o (sub b o e)
  refine get_slot (K := KF) F' XF (instOf (inW_keeps XK F') hk1 hd1) kc.pg kc.ic kc.fo kc.sg kc.tk kc.sl rfl hh1 ?_
  w_strict k_steps
  unfold Stop
  refine get_slot (K := KF) F' XF (instOf (inW_keeps XK F') hk2 hd2) kc.pg kc.ic kc.fo kc.sg kc.tk kc.sl rfl hh2 ?_
  w_strict k_steps
  unfold Stop
  k_dflt (refine' HM v1 a1 v2 a2 H o W hv1 hv2 hI hW _ _ _ _ _ _ _ _ _ _ _ _ _ _ _ _ _ _ _ _ _ _ ?k1 ?c1 ?c2 ?c3 ?k2 ?k3 ?kI ?k4 ?k5 ?kK ?kd ?ku ?_; (case k1 => k_asm); (case k2 => k_asm); (case k3 => k_asm); (case k4 => k_asm); (case k5 => k_asm); (case kK => first | exact rfl | assumption))
  (case c1 => assumption)
  (case c2 => assumption)
  (case c3 => assumption)
  (case kI => exact kiOf (by assumption) (by k_asm) (by k_asm))
  (case kd => dsimp only [ktrTop]; omega)
  (case ku => dsimp only [ktrTop]; omega)
  rintro _ _ h2 tk2 F2 N2 KP2 ⟨c, t, W2, rfl, rfl, hI2, hW2, hs2⟩
  dsimp only
  w_strict k_steps
  exact hret _ _ _ _ (by k_asm) (by k_asm) (kept_ K1' (by k_asm)) ⟨c, W2, rfl, hs2, rfl, hI2, hW2⟩
end Mine
end SecK2
section SecC2
theorem Mine.offC2 : True := by
  w_top off
  k_with_none
  trivial
open PySem PySem.W PyProof.Rows PySem.Spec PySem.Calls
set_option maxRecDepth 100000
set_option maxHeartbeats 2000000
namespace Mine
section
variable {prog : Program} {w : World} {A : Around} {E : Value → Shared → Prop} {s : Shared}
theorem eqBoolRef {k1 k2 : Addr} {Q : Bool → Shared → Prop} (h1 : k1 = k2 → Q true s) (h2 : k1 ≠ k2 → wpAny (model prog w) A (richCompare .Eq (.ref k1) (.ref k2)) (fun v s' => ∃ b, v = .bool b ∧ Q b s') E s) :
    wpAny (model prog w) A (eqBool (.ref k1) (.ref k2)) Q E s := by
  unfold eqBool
  refine wpAny_holding ?_
  show wpAny _ _ (if (Value.ref k1 == Value.ref k2) = true then _ else _) Q E s
  by_cases hab : (Value.ref k1 == Value.ref k2) = true
  · rw [if_pos hab]
    have e : k1 = k2 := by have := eq_of_beq hab; injection this
    exact wpAny_bind (wpAny_rule (wpAny_pure (h1 e)))
  · rw [if_neg hab]
    have e : k1 ≠ k2 := fun q => hab (by rw [q]; simp)
    show wpAny _ _ (richCompare .Eq (.ref k1) (.ref k2) >>= fun v => truthOfDropped v) Q E s
    refine wpAny_bind (wpAny_mono (h2 e) (fun v s' hv => ?_) fun _ _ e => e)
    obtain ⟨b, rfl, hq⟩ := hv
    exact wpAny_truthy_bool hq
end
def valInt (v : Value) (a : Int × List Int) : Prop := ∃ t, v = .int a.1 t
def sgGt (a b : Int × List Int) (c : Int) : Prop := c = b.1 - a.1
def preGt (a b : Int × List Int) : Prop := b.1 ≤ a.1
def It1 (G : Frag) (C : Addr) (len : Nat) (v : Addr) (a : Int × List Int) : Prop :=
  ∃ k r t t' c vs, G.lookup v = some (tupO #[.ref k, .int a.1 t, .ref r]) ∧ KeyIn G C k (.int a.1 t') ∧ G.lookup r = some (listOf (List.toArray vs) c) ∧ IntsAre vs a.2 ∧ a.2.length = len
theorem greater (w : World) (G : Frag) (Inv : List (Addr × Obj) → Prop) : MyOk w G 107 Inv valInt sgGt 1 := by
  intro v1 a1 v2 a2 H o W h1 h2 hI hW
  obtain ⟨t1, rfl⟩ := h1
  obtain ⟨t2, rfl⟩ := h2
  unfold CtG; k_fill
  intro p loose mean mg mb dp un gd cn cs a ccd cl outer A₀ base h₀ L m s Q E B C1 C2 C3 F X KIh N T hk hd hu hret
  refine wpAny_call ?_
  k_dflt (refine' codeDefF ?k1 ?k2 ?k3 ?k4 ?k5 ?kA ?kF ?kK ?k6 ?k7 ?k8 ?k9 ?kB ?_ ?c2 ?c3 ?c4 ?c5; (case kA => exact rfl); (case kF => exact rfl); (case kK => assumption); (case k1 => k_asm); (case k2 => k_asm); (case k3 => k_asm); (case k4 => k_asm); (case k5 => k_asm); (case k6 => k_is); (case k7 => k_is); (case k8 => k_room); (case k9 => exact BindsTo.of_eq rfl); (case kB => exact locs rfl); (case c2 => exact rfl); (case c3 => exact rfl); (case c4 => exact rfl); (case c5 => decide); intro g' L' h' FG' F' N' B' X' T' K1'; (try dsimp only); (try k_lift B'); (try k_fold))
  w_strict k_steps
  exact hret _ _ _ _ (by k_asm) (by k_asm) (kept_ K1' (by k_asm)) ⟨_, _, W, rfl, rfl, hI, hW, rfl⟩
theorem intsV {vs : List Value} {ns : List Int} (h : IntsAre vs ns) : ∀ j (hj : j < vs.toArray.size), IntV vs.toArray[j] := by
  induction h with
  | nil => intro j hj; simp at hj
  | cons a t r ih =>
    intro j hj
    cases j with
    | zero => exact ⟨_, _, rfl⟩
    | succ j => have := ih j (by simpa using hj); simpa using this
theorem cmp1 (w : World) (KF G : Frag) (C d fI fL fE cel : Addr) (kc : KC w.params KF C d fI fL fE cel 107) (sub : Sub KF G) (Inv : List (Addr × Obj) → Prop) (len : Nat) : CmpOk w G Inv (It1 G C len) preGt 20 := by
  intro v1 a1 v2 a2 H o W h1 h2 hI hW
  obtain ⟨k1, r1, t1, u1, c1, vs1, hv1, hk1, hr1, hi1, hl1⟩ := h1
  obtain ⟨k2, r2, t2, u2, c2, vs2, hv2, hk2, hr2, hi2, hl2⟩ := h2
  unfold CtH
  intro p loose mean mg mb dp un gd cn cs a ccd cl outer A₀ base h₀ L m s Q E B C1 C2 C3 F X XG N T hk hd hu hret
  have XF : KF.In h₀ := fun b o e => XG b o (sub b o e)
  have at_ : ∀ {h : Heap}, Fr h₀ L h m → InW G h := fun F => inW_keeps XG F
  have hd1 : recursionLimit = 1000 := rfl
  have hcL : cLine = 9900 := rfl
  have inst : ∀ {h : Heap} {k : Addr} {v : Value}, Fr h₀ L h m → KeyIn G C k v → ∃ ox, InstAt h k ox C (some emptyDict) := fun F ⟨dx, e1, e2⟩ => ⟨_, instOf (at_ F) e1 e2⟩
  refine cmp_ofLt (tupLt3 (at_ F _ _ hv1) (at_ F _ _ hv2) (show un < cLine by omega) ?_)
  -- the tie: numbers alike
  have tie : ∀ (s1 : Shared) h' tk' W', s1 = { s with heap := h', toks := tk' } → Fr h₀ L h' m → News h₀ L h' ((H, o) :: W') → Inv W' → (∀ p ∈ W', p.1 ≠ H) → a1.1 = a2.1 →
      wpAny (model PySem.Challenge.rw_nq0126_01.row.prog w) (ktrTop dp un gd cn cs L a ccd cl outer).in1 (eqBool (.int a1.1 t1) (.int a2.1 t2)) (fun e s2 => if e = true then
          wpAny (model PySem.Challenge.rw_nq0126_01.row.prog w) (ktrTop dp un gd cn cs L a ccd cl outer).in1 (eqBool (.ref r1) (.ref r2)) (fun e s3 => if e = true then Q (.bool false) s3
            else wpAny (model PySem.Challenge.rw_nq0126_01.row.prog w) (ktrTop dp un gd cn cs L a ccd cl outer).in1 (richCompare .Lt (.ref r1) (.ref r2)) (fun v s' => v ≠ .notImplemented ∧ Q v s') E s3) E s2
          else wpAny (model PySem.Challenge.rw_nq0126_01.row.prog w) (ktrTop dp un gd cn cs L a ccd cl outer).in1 (richCompare .Lt (.int a1.1 t1) (.int a2.1 t2)) (fun v s' => v ≠ .notImplemented ∧ Q v s') E s2) E s1 := by
    rintro s1 h' tk' W' rfl F' N' hI' hW' e
    have done : ∀ x, Q (.bool x) { s with heap := h', toks := tk' } := fun x => hret _ _ _ _ F' N' ⟨x, W', rfl, rfl, hI', hW', by
      cases x
      · simp only [Bool.false_eq_true, if_false]; show a1.1 ≤ a2.1; omega
      · simp only [if_true]; show a2.1 ≤ a1.1; omega⟩
    refine wpAny_eqBool_int ?_
    rw [show (a1.1 == a2.1) = true from by simp [e]]
    simp only [if_true]
    refine eqBoolRef (fun _ => by simp only [if_true]; exact done false) fun _ => ?_
    refine (show wpAny _ _ (compareOp .Eq (.ref r1) (.ref r2)) _ _ _ from eq_intsK (PySem.IsL.isList (n := c1) (at_ F' _ _ hr1)) hi1 (PySem.IsL.isList (n := c2) (at_ F' _ _ hr2)) hi2 (show un + 1 + 64 < cLine by omega) ⟨_, rfl, ?_⟩)
    by_cases hh : (decide (a1.2 = a2.2)) = true
    · rw [hh]; simp only [if_true]; exact done false
    · rw [Bool.not_eq_true] at hh
      rw [hh]; simp only [Bool.false_eq_true, if_false]
      exact listLt (at_ F' _ _ hr1) (at_ F' _ _ hr2) (by rw [List.size_toArray, List.size_toArray, hi1.length, hi2.length, hl1, hl2]) (intsV hi1) (intsV hi2) (show un + 1 < cLine by omega) fun x => ⟨(fun e => by cases e), done x⟩
  refine eqBoolRef (fun e => ?_) fun hne => ?_
  · simp only [if_true]
    subst e
    obtain ⟨dx, e1, _⟩ := hk1
    obtain ⟨dx', e1', _⟩ := hk2
    rw [e1] at e1'
    have e : a1.1 = a2.1 := by injection e1' with e1'; injection e1' with _ _ _ e4; injection e4 with e4; injection e4 with e4; injection e4 with e4; injection e4 with e4
    exact tie s s.heap s.toks W rfl F N hI hW e
  obtain ⟨ox1, I1⟩ := inst F hk1
  obtain ⟨ox2, I2⟩ := inst F hk2
  refine cmp_K (op := .Eq) (K := KF) (show un + 1 < cLine by omega) F XF I1 I2.type (by simp [notFirst]) kc.eq kc.eqF ?_
  refine kEq w KF G C d fI fL fE cel kc sub Inv valInt sgGt 1 (greater w G Inv) k1 k2 _ _ a1 a2 H o W hk1 hk2 ⟨_, rfl⟩ ⟨_, rfl⟩ rfl rfl hI hW p loose mean mg mb dp (un + 1) gd cn cs a ccd cl outer A₀ base h₀ L m s _ _ B C1 C2 C3 F X (kiOf XG F N) N T hk (by omega) (by omega) ?_
  rintro _ _ h2 tk2 F2 N2 KP2 ⟨c, W2, rfl, hs2, rfl, hI2, hW2⟩
  unfold sgGt at hs2
  refine ⟨_, rfl, ?_⟩
  by_cases hc : c = 0
  · rw [decide_eq_true hc]; simp only [if_true]
    exact tie _ h2 tk2 W2 rfl F2 N2 hI2 hW2 (by omega)
  · rw [decide_eq_false hc]; simp only [Bool.false_eq_true, if_false]
    obtain ⟨ox1, I1⟩ := inst F2 hk1
    obtain ⟨ox2, I2⟩ := inst F2 hk2
    refine cmp_K (op := .Lt) (K := KF) (show un + 1 < cLine by omega) F2 XF I1 I2.type (by simp [notFirst]) kc.lt kc.ltF ?_
    refine kLt w KF G C d fI fL fE cel kc sub Inv valInt sgGt 1 (greater w G Inv) k1 k2 _ _ a1 a2 H o W2 hk1 hk2 ⟨_, rfl⟩ ⟨_, rfl⟩ rfl rfl hI2 hW2 p loose mean mg mb dp (un + 1) gd cn cs a ccd cl outer A₀ base h₀ L m _ _ _ B C1 C2 C3 F2 X (kiOf XG F2 N2) N2 T hk (by omega) (by omega) ?_
    rintro _ _ h3 tk3 F3 N3 KP3 ⟨c3, W3, rfl, hs3, rfl, hI3, hW3⟩
    unfold sgGt at hs3
    refine ⟨(fun e => by cases e), hret _ _ _ _ F3 N3 ⟨_, W3, rfl, rfl, hI3, hW3, ?_⟩⟩
    · by_cases h3 : c3 < 0
      · rw [decide_eq_true h3]; simp only [if_true]; show a2.1 ≤ a1.1; omega
      · rw [decide_eq_false h3]; simp only [Bool.false_eq_true, if_false]; show a1.1 ≤ a2.1; omega
end Mine
end SecC2
section SecK4
theorem Mine.offK4 : True := by
  w_top off
  k_with_none
  trivial
open PySem PySem.W PyProof.Rows PySem.Spec PySem.Calls
set_option maxRecDepth 100000
set_option maxHeartbeats 2000000
namespace Mine
theorem rulesK4 : True := by
  k_with_none
  k_with "setAttr ref" => refine stop ?_
  trivial
theorem keyK (w : World) (KF G : Frag) (C d fI fL fE cel fm : Addr) (kc : KC w.params KF C d fI fL fE cel fm) (sub : Sub KF G) (v : Value) (news : List (Addr × Obj)) :
    ∀ (p : Program) (loose : List Str) (mean : ExcName → Option Value) (mg mb : Str → Option Value) (dp un : Nat) (gd : Option (List Code)) (cn : Str) (cs : Scope) (a : Addr) (ccd : Value) (cl : List (Str × Addr)) (outer : List Env) (A₀ : Around) (base h₀ : Heap) (L : Addr) (m : Str → Option Value) (s : Shared) (Q E : Value → Shared → Prop),
    Below A₀ base outer h₀ → CodeHd base 34 30 → CodeHd base 41 37 → CodeHd base 62 58 → Fr h₀ L s.heap m → (hd1.heap_39 w.params).In h₀ → KI G s.heap news → News h₀ L s.heap news → Top p loose mean mg mb h₀ → cs.kind = .function → dp + 4 < recursionLimit → un + 8 * 4 < cLine →
    (∀ x dx h' tk', Fr h₀ L h' m → News h₀ L h' ((x, keyO C dx v) :: (dx, emptyDict) :: news) → Kept s.heap news h' → (∀ b o, s.heap.get? b = some o → b < dx) → dx < x → Q (.ref x) { s with heap := h', toks := tk' }) →
    wpAny (model PySem.Challenge.rw_nq0126_01.row.prog w) (ktrTop dp un gd cn cs L a ccd cl outer) (call (.ref C) [v]) Q E s := by
  obtain ⟨a, b, sc, nm, q, doc, pm, cdv, ct, oc, od, osl, hast, hobj, hcode⟩ := kc.fnI
  k_fill
  refine' explUse (P := w.params) ?h ?_
  case h => k_is
  intro hB
  obtain ⟨rfl, rfl, rfl⟩ := fnAtEq hast hB rfl
  clear hB hast
  intro p loose mean mg mb dp un gd cn cs a ccd cl outer A₀ base h₀ L m s Q E B C1 C2 C3 F X KIh N T hk hd hu hret
  have hrl : recursionLimit = 1000 := rfl
  have hXs : InW G s.heap := fun b o e => (KIh b o e).1
  obtain ⟨hh, g0, d0, tk0, os0⟩ := s
  dsimp only at F N KIh hret hXs
  have hXF : KF.In hh := fun b o e => hXs b o (sub b o e)
  refine wpAny_call (make_core (makes_of hXF kc.made) (looks_findIn hXF kc.init) (fun self => bind_fn hXF self (beq_iff_eq.mp kc.initF)) (.inl rfl) ?_)
  have F1 := (F.push emptyDict).push (instObj C hh.objs.size)
  have N1 := (N.push F emptyDict).push (F.push _) (instObj C hh.objs.size)
  rw [Heap.size_push] at N1
  have up : ∀ b o, hh.get? b = some o → ((hh.push emptyDict).push (instObj C hh.objs.size)).get? b = some o ∧ b ≠ hh.objs.size + 1 ∧ b ≠ hh.objs.size := fun b o e =>
    ⟨Heap.get?_push_of_some _ (Heap.get?_push_of_some _ e), Nat.ne_of_lt (Nat.lt_succ_of_lt (Heap.lt_size e)), Nat.ne_of_lt (Heap.lt_size e)⟩
  have hdx : ∀ p ∈ news, p.1 < hh.objs.size := fun p hp => Heap.lt_size (N p hp).1
  have hsz : ∀ b o, hh.get? b = some o → b < hh.objs.size := fun b o e => Heap.lt_size e
  generalize hh1 : (hh.push emptyDict).push (instObj C hh.objs.size) = h1 at F1 N1 up ⊢
  have hX0 : hh.objs.size + 1 ≠ hh.objs.size := by omega
  generalize hxx : hh.objs.size + 1 = x at N1 up hX0 ⊢
  have hxd : hh.objs.size < x := by omega
  generalize hdd : hh.objs.size = dx at F1 N1 up hdx hxd hX0 hsz ⊢
  have KI1 : KI G h1 ((x, instObj C dx) :: (dx, emptyDict) :: news) := fun b o e => ⟨(up b o (KIh b o e).1).1, fun p hp => by
    rcases List.mem_cons.mp hp with rfl | hp
    · exact Ne.symm (up b o (KIh b o e).1).2.1
    · rcases List.mem_cons.mp hp with rfl | hp
      · exact Ne.symm (up b o (KIh b o e).1).2.2
      · exact (KIh b o e).2 p hp⟩
  have hX1 : InW G h1 := fun b o e => (KI1 b o e).1
  refine' callF (s := ⟨h1, g0, d0, tk0, os0⟩) B F1 X N1 T ?kA ?kF ?kK (hX1 _ _ (sub _ _ hobj)) (codeRec_of (K := KF) (fun b o e => hX1 b o (sub b o e)) hcode) ?k8 ?k9 ?kB ?_ ?c2 ?c3 ?c4 ?c5
  case kA => exact rfl
  case kF => exact rfl
  case kK => assumption
  case k8 => show dp + 1 < recursionLimit; omega
  case k9 => exact BindsTo.of_eq rfl
  case kB => exact locs rfl
  case c2 => exact rfl
  case c3 => exact rfl
  case c4 => exact rfl
  case c5 => decide
  intro g' L' h' FG' F' N' B' X' T' K1'
  (try dsimp only); (try k_lift B'); (try k_fold)
  have XK := inOf (s := ⟨h1, g0, d0, tk0, os0⟩) KI1 K1'
  w_strict k_steps
  unfold Stop
  have XF : InW KF g' := fun b o e => XK b o (sub b o e)
  have hne : ∀ p ∈ (dx, emptyDict) :: news, p.1 ≠ x := fun p hp => by
    rcases List.mem_cons.mp hp with rfl | hp
    · exact Ne.symm hX0
    · exact Nat.ne_of_lt (Nat.lt_trans (hdx p hp) hxd)
  refine set_slot (K := KF) F' XF N' ⟨(N' _ (.head _)).1, rfl, rfl, (N' _ (.tail _ (.head _))).1⟩ kc.sa kc.po kc.ta kc.ty kc.sl (by decide) (ox' := keyO C dx v) rfl rfl (Upd.head hne) ?_
  intro h2 F2 N2
  w_strict k_steps
  refine hret _ _ _ _ (by k_asm) (by k_asm) (fun b o e ne => ?_) hsz hxd
  exact F2.keep b o (K1' b o (up b o e).1 fun p hp => by
    rcases List.mem_cons.mp hp with rfl | hp
    · exact Ne.symm (up b o e).2.1
    · rcases List.mem_cons.mp hp with rfl | hp
      · exact Ne.symm (up b o e).2.2
      · exact ne p hp)
end Mine
end SecK4
section SecZD
theorem Mine.offZD : True := by
  w_top off
  k_with_none
  trivial
open PySem PySem.W PyProof.Rows PySem.Spec PySem.Calls
set_option maxRecDepth 100000
set_option maxHeartbeats 8000000
namespace Mine
def ZH1 (w : World) (s : Shared) (Q : Value → Shared → Prop) : Prop := ∀ (S' : Shared) (KF : Frag), KC w.params (KF ++ hd1.heap_39 w.params) 201 202 157 165 181 142 107 → (∀ p ∈ KF, S'.heap.get? p.1 = some p.2 ∧ 141 ≤ p.1) →
  (∀ b o, s.heap.get? b = some o → b ≠ 58 → S'.heap.get? b = some o) → (∃ ps58, S'.heap.get? 58 = some (tabObj ps58)) → S'.gens = s.gens → S'.drawn = s.drawn → S'.os = s.os → Q (.ref 201) S'
def TopZ (ZP : Heap → Prop) (h₀ : Heap) : Prop := ∀ h' : Heap, (∀ b o, h₀.get? b = some o → h'.get? b = some o) → h'.get? 30 = some (tabObj #[]) → h'.get? 37 = some (tabObj #[]) → h'.get? 58 = some (tabObj #[]) → ZP h'
theorem TopZ.up {ZP : Heap → Prop} {h₀ g : Heap} {L : Addr} {m : Str → Option Value} (T : TopZ ZP h₀) (F : Fr h₀ L g m) : TopZ ZP g := fun h' k a b c => T h' (fun x o e => k x o (F.keep x o e)) a b c
theorem afterCmp {g h h' : Heap} {L : Addr} {m : Str → Option Value} {R KF : List (Addr × Obj)} {ps58 : Array Value} (F : Fr g L h m) (N : News g L h R) (h58 : g.get? 58 = none) (hR : ∀ p ∈ R, p.1 ≠ 58) (hL : L ≠ 58) (sz : h.objs.size = 141)
    (hK : ∀ p ∈ KF, h'.get? p.1 = some p.2 ∧ 141 ≤ p.1) (keep : ∀ b o, h.get? b = some o → b ≠ 58 → h'.get? b = some o) (h58' : h'.get? 58 = some (tabObj ps58)) : Fr g L h' m ∧ News g L h' (R ++ ((58, tabObj ps58) :: KF)) := by
  have hLl := F.ns.lt
  refine ⟨⟨F.ns.at' fun o e => keep L o e hL, fun b o e => keep b o (F.keep b o e) (fun q => by rw [q, h58] at e; cases e), F.above⟩, fun p hp => ?_⟩
  rcases List.mem_append.mp hp with hp | hp
  · exact ⟨keep _ _ (N p hp).1 (hR p hp), (N p hp).2⟩
  · rcases List.mem_cons.mp hp with rfl | hp
    · exact ⟨h58', Ne.symm hL, h58⟩
    have h1 := hK p hp
    refine ⟨h1.1, fun q => ?_, ?_⟩
    · have := h1.2; rw [q] at this; exact Nat.lt_irrefl 141 (Nat.lt_of_le_of_lt this (sz ▸ hLl))
    · cases e : g.get? p.1 with
      | none => rfl
      | some o => exact absurd (Nat.lt_of_le_of_lt h1.2 (sz ▸ Heap.lt_size (F.keep _ _ e))) (Nat.lt_irrefl 141)
end Mine
end SecZD
section SecFR
theorem Mine.offFR : True := by
  w_top off
  k_with_none
  trivial
open PySem PySem.W PyProof.Rows PySem.Spec PySem.Calls PyProof.Rows.LCg
set_option maxRecDepth 100000
set_option maxHeartbeats 8000000
namespace Mine
inductive FEnd (h₀ : Heap) (L : Addr) (s : Shared) (I : Addr) (oI : Obj) (J : Nat → (Str → Option Value) → List (Addr × Obj) → Prop) (i : Nat) (f : Flow) (s₂ : Shared)  : Prop
  | mk (w1 : (f = .next ∨ f = .cont)) (h' : _) (tk : _) (m' : _) (news' : _) (w2 : s₂ = { s with heap := h', toks := tk }) (w3 : Fr h₀ L h' m') (w4 : News h₀ L h' ((I, oI) :: news')) (w5 : (∀ p ∈ news', p.1 ≠ I)) (w6 : J i m' news')
inductive FSrc (prog : Program) (w : World) (A : Around) (h₀ : Heap) (L : Addr) (env : Env) (x : Str) (px : Pos) (body : List Stmt) (J : Nat → (Str → Option Value) → List (Addr × Obj) → Prop) (Q : Flow → Shared → Prop) (xv : Value) (s₁ : Shared)  : Prop
  | mk (r : _) (b : _) (t : _) (u : _) (v : _) (n : _) (m : _) (news : _) (w1 : xv = .ref r) (w2 : A.handled = none) (w3 : Fr h₀ L s₁.heap m) (w4 : News h₀ L s₁.heap news) (w5 : IsRange s₁.heap r 0 b 1 t u v) (w6 : Builtin.Range.small 0 b 1 = true) (w7 : Builtin.Range.rangeSize 0 b 1 = ((n : Nat) : Int)) (w8 : J 0 m news) (w9 : (∀ i m₁ news₁ h₁ tk₁ t I oI (E' : Value → Shared → Prop), i < n → Fr h₀ L h₁ m₁ → News h₀ L h₁ ((I, oI) :: news₁) → (∀ p ∈ news₁, p.1 ≠ I) → J i m₁ news₁ → wpAny (model prog w) A (assign (.Name x px) env (.int (i : Int) t)) (fun _ s₂ => wpAny (model prog w) A (execs body env) (FEnd h₀ L s₁ I oI J (i + 1)) E' s₂) E' { s₁ with heap := h₁, toks := tk₁ })) (w10 : ∀ m₁ news₁ h₁ tk₁, Fr h₀ L h₁ m₁ → News h₀ L h₁ news₁ → J n m₁ news₁ → Q .next { s₁ with heap := h₁, toks := tk₁ })
section
variable {prog : Program} {w : World} {A : Around} {E : Value → Shared → Prop} {s : Shared} {h₀ : Heap} {L : Addr} {env : Env}
theorem forK {x : Str} {px pos : Pos} {iter : Expr} {body : List Stmt} {Q : Flow → Shared → Prop} (J : Nat → (Str → Option Value) → List (Addr × Obj) → Prop)
    (h : wpAny (model prog w) A (eval iter env) (FSrc prog w A h₀ L env x px body J Q) E s) (hs : ∀ x, foldedSetIterable iter env x = pure x := by intro _; rfl) :
    wpAny (model prog w) A (exec (.For (.Name x px) iter body [] pos) env) Q E s := by
  refine wpAny_For (wpAny_mono h (fun xv s₁ h₁ => ?_) fun _ _ e => e) hs
  obtain ⟨r, b, t, u, v, n, m, news, rfl, hh, F, N, hr, hsm, hn, hJ, turn, fin⟩ := h₁
  refine wpAny_pyIter_range hr hsm ?_
  have up : ∀ (o : Obj) b o', s₁.heap.get? b = some o' → (s₁.heap.push o).get? b = some o' := fun o b o' e => Heap.get?_push_of_some _ e
  have hIL : L ≠ s₁.heap.objs.size := Nat.ne_of_lt F.ns.lt
  have hI₀ : h₀.get? s₁.heap.objs.size = none := next_is_new F
  have W : Walks prog w A s₁.heap.objs.size [s₁.heap.objs.size] [s₁.heap.objs.size] n (fun i v => ∃ t, v = .int ((0 : Int) + (i : Int)) t) (fun i h => IsRangeIter h s₁.heap.objs.size ((0 : Int) + (i : Nat) * 1) ((n : Int) - (i : Nat)) 1) := range_walks hh 0 n
  refine codeAny_forLoop (fun k s' => ∃ h' tk i m' news', s' = { s₁ with heap := h', toks := tk } ∧ i ≤ n ∧ k = n + 1 - i ∧ IsRangeIter h' s₁.heap.objs.size ((0 : Int) + (i : Nat) * 1) ((n : Int) - (i : Nat)) 1 ∧ Fr h₀ L h' m' ∧ News h₀ L h' news' ∧ (∀ p ∈ news', p.1 ≠ s₁.heap.objs.size) ∧ J i m' news') ?_ (n + 1)
    ⟨_, _, 0, m, news, rfl, Nat.zero_le _, rfl, (by show IsRangeIter _ _ _ _ _; rw [hn]; simpa using Heap.get?_push_size _ rfl), F.keeps (up _), N.grown (up _), (fun p hp => Nat.ne_of_lt (Heap.lt_size (N p hp).1)), hJ⟩
  rintro k s' ⟨h', tk, i, m', news', rfl, hi, rfl, hst, F', N', off, J'⟩
  by_cases hlt : i < n
  · refine W.item i _ _ _ hlt hst fun v h₂ tk₂ hPv hst₂ hk₂ => ?_
    obtain ⟨t', rfl⟩ := hPv
    have oI := (show h₂.get? s₁.heap.objs.size = some _ from hst₂)
    have F₂ := fr_but F' hk₂ hIL hI₀
    have N₂ := news_but N' hk₂ off
    have := turn i m' news' h₂ tk₂ t' s₁.heap.objs.size _ (notedBy (model prog w) A env fun e s' => cameBackBy (model prog w) A env E e s') hlt F₂ (fun p hp => by
      rcases List.mem_cons.mp hp with rfl | hp
      · exact ⟨oI, Ne.symm hIL, hI₀⟩
      · exact N₂ p hp) off J'
    rw [Int.zero_add]
    refine wpAny_mono this (fun _ s₂ hb => wpAny_mono hb (fun f s₃ hf => ?_) fun _ _ e => e) fun _ _ e => e
    obtain ⟨hfl, h₄, tk₄, m₄, news₄, rfl, F₄, N₄, off₄, J₄⟩ := hf
    have done : ∃ m, m < n + 1 - i ∧ ∃ h' tk j m' news', ({ s₁ with heap := h₄, toks := tk₄ } : Shared) = { s₁ with heap := h', toks := tk } ∧ j ≤ n ∧ m = n + 1 - j ∧ IsRangeIter h' s₁.heap.objs.size ((0 : Int) + (j : Nat) * 1) ((n : Int) - (j : Nat)) 1 ∧ Fr h₀ L h' m' ∧ News h₀ L h' news' ∧ (∀ p ∈ news', p.1 ≠ s₁.heap.objs.size) ∧ J j m' news' :=
      ⟨n + 1 - (i + 1), by omega, h₄, tk₄, i + 1, m₄, news₄, rfl, hlt, rfl, (N₄ _ (.head _)).1, F₄, fun p hp => N₄ p (.tail _ hp), off₄, J₄⟩
    rcases hfl with rfl | rfl <;> exact done
  · obtain rfl : i = n := by omega
    refine W.done _ _ _ hst fun h₂ tk₂ hk₂ => ?_
    exact wpAny_execs_nil (fin m' news' h₂ _ (fr_but F' hk₂ hIL hI₀) (news_but N' hk₂ off) J')
end
end Mine
end SecFR
section SecCI
theorem Mine.offCI : True := by
  w_top off
  k_with_none
  trivial
open PySem PySem.W PyProof.Rows PySem.Spec PySem.Calls PyProof.Rows.LCg
set_option maxRecDepth 100000
set_option maxHeartbeats 8000000
namespace Mine
def IntEnd (c : Int) (s : Shared) (h : Heap) (y : Value) (s₂ : Shared) : Prop := ∃ t tk', y = .int c t ∧ s₂ = { s with heap := h, toks := tk' }
section
variable {prog : Program} {w : World} {A : Around} {E : Value → Shared → Prop} {s : Shared} {h₀ : Heap} {L : Addr} {m : Str → Option Value} {env : Env}
theorem comp_ind {elt : Expr} {x : Str} {scope : Scope} {cl : List (Str × Addr)} {S : List (Addr × Obj) → Prop} {P : Nat → Value → Prop} {Fin : List Value → List (Addr × Obj) → Prop} {news : List (Addr × Obj)} (f : Nat → Int) (hS : S news)
    (step : ∀ i ys v I oI C oC D m₂ h tk (E' : Value → Shared → Prop), P i v → NsObj oC m₂ → m₂ x = some v → Fr h₀ L h m → News h₀ L h ((I, oI) :: (C, oC) :: (D, lst ys) :: news) → Off3 I C D news → ((@Ne Nat I C) ∧ (@Ne Nat I D) ∧ (@Ne Nat C D)) →
      wpAny (model prog w) A (eval elt (compEnvC scope cl C env)) (IntEnd (f i) s h) E' { s with heap := h, toks := tk }) :
    ∀ (k i : Nat) (ys : List Value) (ns : List Int), IntsAre ys ns → (∀ zs, IntsAre zs (ns ++ (List.range' i k).map f) → Fin zs news) → CompRest prog w A h₀ L m env elt x scope cl s S P Fin k i ys news
  | 0, i, ys, ns, hy, fin => CompRest.zero (fin ys (by simpa using hy))
  | k + 1, i, ys, ns, hy, fin => CompRest.succ fun v I oI C oC D m₂ h tk E' hv hC hx F N off ne => by
    refine wpAny_mono (step i ys v I oI C oC D m₂ h tk E' hv hC hx F N off ne) (fun y s₂ hq => ?_) fun _ _ e => e
    obtain ⟨t, tk', rfl, rfl⟩ := hq
    exact ⟨h, tk', news, rfl, F, N, off, hS, comp_ind f hS step k (i + 1) _ (ns ++ [f i]) (ints_append hy (.cons _ _ .nil)) fun zs hz => fin zs (by
      rw [List.range'_succ, List.map_cons]
      simpa using hz)⟩
theorem kiW {g h : Heap} {L : Addr} {m : Str → Option Value} {R W : List (Addr × Obj)} {K : Frag} (F : Fr g L h m) (N : News g L h (R ++ W)) (X : K.In g) (hd : ∀ p ∈ R, ∀ q ∈ W, q.1 ≠ p.1) : KI (W ++ K) h R := by
  have hN : ∀ p ∈ R, g.get? p.1 = none := fun p hp => (N p (List.mem_append_left _ hp)).2.2
  have hW : ∀ q ∈ W, h.get? q.1 = some q.2 := fun q hq => (N q (List.mem_append_right _ hq)).1
  clear N
  intro b o e
  induction W with
  | nil => exact ⟨F.keep b o (X b o e), fun p hp q => by have := hN p hp; rw [q, X b o e] at this; cases this⟩
  | cons y r ih =>
    obtain ⟨a, x⟩ := y
    rw [List.cons_append, List.lookup_cons] at e
    by_cases q : (b == a) = true
    · rw [q] at e; cases e; rw [eq_of_beq q]; exact ⟨hW _ (.head _), fun p hp z => hd p hp _ (.head _) z.symm⟩
    · rw [Bool.not_eq_true] at q; rw [q] at e; exact ih (fun p hp z hz => hd p hp z (.tail _ hz)) (fun z hz => hW z (.tail _ hz)) e
theorem news_back {h h' : Heap} {R R' W : List (Addr × Obj)} (N : News h₀ L h (R ++ W)) (N' : News h₀ L h' R') (K : Kept h R h') (hd : ∀ p ∈ R, ∀ q ∈ W, q.1 ≠ p.1) : News h₀ L h' (R' ++ W) := fun p hp => by
  rcases List.mem_append.mp hp with hp | hp
  · exact N' p hp
  · have y := N p (List.mem_append_right _ hp)
    exact ⟨K p.1 p.2 y.1 fun q hq e => hd q hq p hp e.symm, y.2⟩
end
end Mine
end SecCI
section SecPU
theorem Mine.offPU : True := by
  w_top off
  k_with_none
  trivial
open PySem PySem.W PyProof.Rows PySem.Spec PySem.Calls
set_option maxRecDepth 100000
set_option maxHeartbeats 4000000
namespace Mine
theorem mem_of_lk {K : Frag} {b : Addr} {o : Obj} (h : K.lookup b = some o) : (b, o) ∈ K := by
  induction K with
  | nil => cases h
  | cons p r ih =>
    obtain ⟨a, x⟩ := p
    rw [List.lookup_cons] at h
    by_cases e : (b == a) = true
    · rw [e] at h; cases h; rw [eq_of_beq e]; exact List.mem_cons_self
    · rw [Bool.not_eq_true] at e; rw [e] at h; exact List.mem_cons_of_mem _ (ih h)
theorem lk_app {W K : Frag} {b : Addr} {o : Obj} (h : (W ++ K).lookup b = some o) : (b, o) ∈ W ∨ K.lookup b = some o := by
  induction W with
  | nil => exact .inr h
  | cons p r ih =>
    obtain ⟨a, x⟩ := p
    rw [List.cons_append, List.lookup_cons] at h
    by_cases e : (b == a) = true
    · rw [e] at h; cases h; rw [eq_of_beq e]; exact .inl List.mem_cons_self
    · rw [Bool.not_eq_true] at e; rw [e] at h
      rcases ih h with q | q
      · exact .inl (List.mem_cons_of_mem _ q)
      · exact .inr q
theorem subNew {W K : Frag} {g : Heap} {a : Addr} {oa : Obj} (hW : ∀ p ∈ W, p.1 ≠ a) (X : K.In g) (ha : g.get? a = none) : Sub (W ++ K) (((a, oa) :: W) ++ K) := fun b o e => by
  have hne : b ≠ a := by
    rcases lk_app e with q | q
    · exact hW _ q
    · intro z; have := X b o q; rw [z, ha] at this; cases this
  rw [List.cons_append, List.lookup_cons, beq_eq_false_iff_ne.mpr hne]
  exact e
theorem Sub.trans' {A B C : Frag} (h1 : Sub A B) (h2 : Sub B C) : Sub A C := fun b o e => h2 b o (h1 b o e)
theorem KeyIn.mono {G G' : Frag} {C k : Addr} {v : Value} (h : Sub G G') : KeyIn G C k v → KeyIn G' C k v := fun ⟨dx, e1, e2⟩ => ⟨dx, h _ _ e1, h _ _ e2⟩
theorem It1.mono {G G' : Frag} {C : Addr} {len : Nat} {v : Addr} {a : Int × List Int} (h : Sub G G') : It1 G C len v a → It1 G' C len v a :=
  fun ⟨k, r, t, t', c, vs, e1, e2, e3, e4⟩ => ⟨k, r, t, t', c, vs, h _ _ e1, e2.mono h, h _ _ e3, e4⟩
theorem It1.intro {G : Frag} {Dt Dr x dx : Addr} {n : Int} {row : List Int} {len : Nat} {t t' : Tok} {rs : List Value} {C : Addr} (kDt : G.lookup Dt = some (tupO #[.ref x, .int n t, .ref Dr])) (kx : G.lookup x = some (keyO C dx (.int n t'))) (kdx : G.lookup dx = some emptyDict) (kDr : G.lookup Dr = some (LCg.lst rs))
    (hrs : IntsAre rs row) (hl : row.length = len) : It1 G C len Dt (n, row) := ⟨x, Dr, t, t', rs.length, rs, kDt, ⟨dx, kx, kdx⟩, kDr, hrs, hl⟩
theorem pick5 {a b c d e f : Addr × Obj} {R W : List (Addr × Obj)} {p : Addr × Obj} (h : p ∈ [f] ++ (a :: b :: c :: d :: W)) : p ∈ a :: b :: c :: d :: e :: f :: (R ++ W) := by
  simp only [List.mem_cons, List.mem_append, List.not_mem_nil, or_false] at h ⊢
  rcases h with h | h | h | h | h | h <;> simp [h]
theorem lkHead {K : Frag} {a : Addr} {o : Obj} : ((a, o) :: K).lookup a = some o := by rw [List.lookup_cons, beq_self_eq_true]
theorem off1_mem {D : Addr} : ∀ {l : List (Addr × Obj)}, LCg.Off1 D l → ∀ p ∈ l, p.1 ≠ D
  | [], _, _, h => nomatch h
  | _ :: _, x, p, h => by
    rcases List.mem_cons.mp h with rfl | h
    · exact x.1
    · exact off1_mem x.2 p h
theorem pushPrep {g h : Heap} {L Dt Dr x dx : Addr} {ot orr ox od : Obj} {R W1 : List (Addr × Obj)} {K : Frag} (N : News g L h ((Dt, ot) :: (Dr, orr) :: (x, ox) :: (dx, od) :: (R ++ W1))) (X : K.In g)
    (o1 : ∀ p ∈ W1, p.1 ≠ dx) (o2 : ∀ p ∈ (dx, od) :: W1, p.1 ≠ x) (o3 : ∀ p ∈ (x, ox) :: (dx, od) :: W1, p.1 ≠ Dr) (o4 : ∀ p ∈ (Dr, orr) :: (x, ox) :: (dx, od) :: W1, p.1 ≠ Dt) :
    Sub (W1 ++ K) (((Dt, ot) :: (Dr, orr) :: (x, ox) :: (dx, od) :: W1) ++ K) ∧ (((Dt, ot) :: (Dr, orr) :: (x, ox) :: (dx, od) :: W1) ++ K).lookup Dt = some ot ∧ (((Dt, ot) :: (Dr, orr) :: (x, ox) :: (dx, od) :: W1) ++ K).lookup Dr = some orr ∧
    (((Dt, ot) :: (Dr, orr) :: (x, ox) :: (dx, od) :: W1) ++ K).lookup x = some ox ∧ (((Dt, ot) :: (Dr, orr) :: (x, ox) :: (dx, od) :: W1) ++ K).lookup dx = some od := by
  have s1 : Sub (W1 ++ K) (((dx, od) :: W1) ++ K) := subNew o1 X (N (dx, od) (.tail _ (.tail _ (.tail _ (.head _))))).2.2
  have s2 : Sub (((dx, od) :: W1) ++ K) (((x, ox) :: (dx, od) :: W1) ++ K) := subNew o2 X (N (x, ox) (.tail _ (.tail _ (.head _)))).2.2
  have s3 : Sub (((x, ox) :: (dx, od) :: W1) ++ K) (((Dr, orr) :: (x, ox) :: (dx, od) :: W1) ++ K) := subNew o3 X (N (Dr, orr) (.tail _ (.head _))).2.2
  have s4 : Sub (((Dr, orr) :: (x, ox) :: (dx, od) :: W1) ++ K) (((Dt, ot) :: (Dr, orr) :: (x, ox) :: (dx, od) :: W1) ++ K) := subNew o4 X (N (Dt, ot) (.head _)).2.2
  exact ⟨fun b o e => s4 _ _ (s3 _ _ (s2 _ _ (s1 _ _ e))), lkHead, s4 _ _ lkHead, s4 _ _ (s3 _ _ lkHead), s4 _ _ (s3 _ _ (s2 _ _ lkHead))⟩
end Mine
end SecPU
section SecZC
theorem Mine.offZC : True := by
  w_top off
  k_with_none
  trivial
open PySem PySem.W PyProof.Rows PySem.Spec PySem.Calls PyProof.Rows.LCg
set_option maxRecDepth 100000
set_option maxHeartbeats 8000000
namespace Mine
section
variable {prog : Program} {w : World} {A : Around} {E : Value → Shared → Prop} {s : Shared} {h₀ : Heap} {L : Addr} {m : Str → Option Value} {env : Env}
def ZStep (prog : Program) (w : World) (A : Around) (h₀ : Heap) (L : Addr) (m : Str → Option Value) (env : Env) (elt : PySem.Expr) (a b : Str) (scope : Scope) (cl : List (Str × Addr)) (news : List (Addr × Obj)) (f : Int → Int → Int) (ns ms : List Int) (s : Shared) : Prop :=
  ∀ x y tx ty C oC m₂ h tk (E' : Value → Shared → Prop), x ∈ ns ∧ y ∈ ms → NsObj oC m₂ → m₂ a = some (.int x tx) → m₂ b = some (.int y ty) → Fr h₀ L h m → News h₀ L h ((C, oC) :: news) → (∀ p ∈ news, p.1 ≠ C) →
    wpAny (model prog w) A (eval elt (compEnvC scope cl C env)) (IntEnd (f x y) s h) E' { s with heap := h, toks := tk }
def ZFin (h₀ : Heap) (L : Addr) (m : Str → Option Value) (s : Shared) (news : List (Addr × Obj)) (g : Heap) (zs : List Int) (Q : Value → Shared → Prop) : Prop :=
  ∀ D vs h tk, IntsAre vs zs → Fr h₀ L h m → News h₀ L h ((D, lst vs) :: news) → (∀ p ∈ news, p.1 ≠ D) → (∀ b o, g.get? b = some o → b < D) → (∀ b o, g.get? b = some o → h.get? b = some o) → Q (.ref D) { s with heap := h, toks := tk }
inductive ZSrc (prog : Program) (w : World) (A : Around) (h₀ : Heap) (L : Addr) (m : Str → Option Value) (env : Env) (elt : PySem.Expr) (a b : Str) (scope : Scope) (cl : List (Str × Addr)) (Q : Value → Shared → Prop) (xv : Value) (s₁ : Shared)  : Prop
  | mk (z TI TO i1 i2 l1 l2 : Addr) (xs ys : List Value) (ns ms : List Int) (news : List (Addr × Obj)) (f : Int → Int → Int) (g : Heap) (w1 : xv = .ref z) (w2 : A.handled = none) (w3 : ZipApart z TI TO i1 i2 l1 l2) (w4 : (IsZip s₁.heap z TI TO .none ∧ IsPair s₁.heap TI (.ref i1) (.ref i2) ∧ (∃ a b, IsPair s₁.heap TO a b) ∧ s₁.heap.IsListIter i1 l1 0 ∧ s₁.heap.IsListIter i2 l2 0 ∧ s₁.heap.IsList l1 xs.toArray ∧ s₁.heap.IsList l2 ys.toArray)) (w5 : (g.objs.size ≤ z ∧ g.objs.size ≤ TO ∧ g.objs.size ≤ i1 ∧ g.objs.size ≤ i2)) (w6 : (z < s₁.heap.objs.size ∧ TI < s₁.heap.objs.size ∧ TO < s₁.heap.objs.size ∧ i1 < s₁.heap.objs.size ∧ i2 < s₁.heap.objs.size)) (w7 : (∀ b o, g.get? b = some o → s₁.heap.get? b = some o)) (w8 : l1 < g.objs.size) (w9 : l2 < g.objs.size) (w10 : IntsAre xs ns) (w11 : IntsAre ys ms) (w12 : ns.length = ms.length) (w13 : ns.length ≤ sizeLine) (w14 : Fr h₀ L g m) (w15 : News h₀ L g news) (w16 : ZStep prog w A h₀ L m env elt a b scope cl news f ns ms s₁) (w17 : ZFin h₀ L m s₁ news g (List.zipWith f ns ms) Q)
theorem ints_get : ∀ {vs : List Value} {ns : List Int} {i : Nat} {v : Value}, IntsAre vs ns → vs[i]? = some v → ∃ n t, v = .int n t ∧ ns[i]? = some n
  | _, _, 0, _, .cons n t _, h => by simp only [List.getElem?_cons_zero, Option.some.injEq] at h; exact ⟨n, t, h.symm, rfl⟩
  | _, _, i + 1, _, .cons n t r, h => by simpa using ints_get (i := i) r (by simpa using h)
abbrev ZSt (z TI TO i1 i2 l1 l2 : Addr) (xs ys : List Value) (i : Nat) (h : Heap) : Prop := IsZip h z TI TO .none ∧ IsPair h TI (.ref i1) (.ref i2) ∧ (∃ a b, IsPair h TO a b) ∧ h.IsListIter i1 l1 i ∧ h.IsListIter i2 l2 i ∧ h.IsList l1 xs.toArray ∧ h.IsList l2 ys.toArray
inductive ZInv (St : Nat → Heap → Prop) (C D : Addr) (zs : List Int) (g : Heap) (s₁ : Shared) (n : Nat) (k : Nat) (s' : Shared)  : Prop
  | mk (h' : _) (tk : _) (i : _) (vs : _) (m' : _) (w1 : s' = { s₁ with heap := h', toks := tk }) (w2 : i ≤ n) (w3 : k = n + 1 - i) (w4 : IntsAre vs (zs.take i)) (w5 : vs.length = i) (w6 : St i h') (w7 : (∀ b o, g.get? b = some o → h'.get? b = some o)) (w8 : h'.Ns C m') (w9 : h'.get? D = some (lst vs))
theorem zinv_use {St : Nat → Heap → Prop} {C D : Addr} {zs : List Int} {g : Heap} {s₁ : Shared} {n : Nat} {G : Nat → Shared → Prop}
    (k : ∀ h' tk i vs m', i ≤ n → IntsAre vs (zs.take i) → vs.length = i → St i h' → (∀ b o, g.get? b = some o → h'.get? b = some o) → h'.Ns C m' → h'.get? D = some (lst vs) → G (n + 1 - i) { s₁ with heap := h', toks := tk }) :
    ∀ k s', ZInv St C D zs g s₁ n k s' → G k s' := by
  rintro _ _ ⟨h', tk, i, vs, m', rfl, a, rfl, b, c, d, e, f, j⟩
  exact k _ _ _ _ _ a b c d e f j
theorem zsrc_use {elt : PySem.Expr} {a b : Str} {scope : Scope} {cl : List (Str × Addr)} {Q : Value → Shared → Prop} {xv : Value} {s₁ : Shared} {G : Value → Prop}
    (k : ∀ (z TI TO i1 i2 l1 l2 : Addr) (xs ys : List Value) (ns ms : List Int) (news : List (Addr × Obj)) (f : Int → Int → Int) (g : Heap), A.handled = none → ZipApart z TI TO i1 i2 l1 l2 → ZSt z TI TO i1 i2 l1 l2 xs ys 0 s₁.heap →
      g.objs.size ≤ z → g.objs.size ≤ TO → g.objs.size ≤ i1 → g.objs.size ≤ i2 → z < s₁.heap.objs.size → TI < s₁.heap.objs.size → TO < s₁.heap.objs.size → i1 < s₁.heap.objs.size → i2 < s₁.heap.objs.size →
      (∀ b o, g.get? b = some o → s₁.heap.get? b = some o) → l1 < g.objs.size → l2 < g.objs.size → IntsAre xs ns → IntsAre ys ms → ns.length = ms.length → ns.length ≤ sizeLine → Fr h₀ L g m → News h₀ L g news →
      ZStep prog w A h₀ L m env elt a b scope cl news f ns ms s₁ → ZFin h₀ L m s₁ news g (List.zipWith f ns ms) Q → G (.ref z)) : ZSrc prog w A h₀ L m env elt a b scope cl Q xv s₁ → G xv := by
  rintro ⟨z, TI, TO, i1, i2, l1, l2, xs, ys, ns, ms, news, f, g, rfl, hh, D, st, ⟨gz, gTO, gi1, gi2⟩, ⟨sz, sTI, sTO, si1, si2⟩, K, gl1, gl2, hx, hy, hlen, hsz, F, N, step, fin⟩
  exact k _ _ _ _ _ _ _ _ _ _ _ _ _ _ hh D st gz gTO gi1 gi2 sz sTI sTO si1 si2 K gl1 gl2 hx hy hlen hsz F N step fin
theorem znew {g : Heap} {Dl C : Nat} {z TO i1 i2 : Nat} (gz : g.objs.size ≤ z) (gTO : g.objs.size ≤ TO) (gi1 : g.objs.size ≤ i1) (gi2 : g.objs.size ≤ i2) (gD : g.objs.size ≤ Dl) (hC : C = Dl + 1) {b : Addr} {o : Obj} (e : g.get? b = some o) :
    b ≠ z ∧ b ≠ TO ∧ b ≠ i1 ∧ b ≠ i2 ∧ b ≠ C ∧ b ≠ Dl := by
  have hb := Heap.lt_size e
  have ne : ∀ {y : Nat}, g.objs.size ≤ y → b ≠ y := fun h => Nat.ne_of_lt (Nat.lt_of_lt_of_le hb h)
  exact ⟨ne gz, ne gTO, ne gi1, ne gi2, ne (hC ▸ Nat.le_succ_of_le gD), ne gD⟩
theorem zfp {Dl C z TI TO i1 i2 l1 l2 : Nat} (hC : C = Dl + 1) (a1 : z < Dl) (a2 : TI < Dl) (a3 : TO < Dl) (a4 : i1 < Dl) (a5 : i2 < Dl) (a6 : l1 < Dl) (a7 : l2 < Dl) : ∀ b ∈ [z, TI, TO, i1, i2, l1, l2], b ≠ C ∧ b ≠ Dl := fun b hb => by
  have hlt : b < Dl := by
    simp only [List.mem_cons, List.not_mem_nil, or_false] at hb
    rcases hb with rfl | rfl | rfl | rfl | rfl | rfl | rfl <;> assumption
  exact ⟨Nat.ne_of_lt (hC ▸ Nat.lt_succ_of_lt hlt), Nat.ne_of_lt hlt⟩
theorem zip_comp {elt iter : PySem.Expr} {a b : Str} {pa pb tp : Pos} {kk : Nat} {scope : Scope} {cl : List (Str × Addr)} {pos : Pos} {Q : Value → Shared → Prop} (_F₀ : Fr h₀ L s.heap m)
    (hclos : closureFor scope env = pure cl) (hcell : ∀ y ∈ scope.names, y.2 ≠ .cell) (hkind : scope.kind = .function)
    (hnames : ∀ y ∈ scope.names, y.2 = .local → scope.names.lookup y.1 = some .local) (hxa : scope.names.lookup a = some .local) (hxb : scope.names.lookup b = some .local) (hab : ¬ a = b)
    (h : wpAny (model prog w) A (eval iter env) (ZSrc prog w A h₀ L m env elt a b scope cl Q) E s)
    (hs : ∀ x, foldedSetIterable iter env x = pure x := by intro _; rfl) :
    wpAny (model prog w) A (eval (.ListComp elt [⟨.Tuple [.Name a pa, .Name b pb] kk tp, iter, [], 0⟩] scope pos) env) Q E s := by
  rw [eval_ListComp]
  refine wpAny_comprehension_free (use := none) rfl hs hclos hkind hnames (wpAny_mono h (fun xv s₁ h₁ => ?_) fun _ _ e => e)
  refine zsrc_use (G := fun y => wpAny (model prog w) A (pyIter y) _ E s₁) ?_ h₁
  intro z TI TO i1 i2 l1 l2 xs ys ns ms news f g hh D st gz gTO gi1 gi2 sz sTI sTO si1 si2 K gl1 gl2 hx hy hlen hsz F N step fin
  refine wpAny_pyIter_zip st.1 ?_
  refine wpAny_newObj_type (wpAny_newFunctionEnv hcell (by intro y hy; simp at hy) (fun h₁ hns₁ hsb₁ => ?_) hkind)
  dsimp only at hns₁ hsb₁ ⊢
  generalize hH2 : s₁.heap.push { cls := .type "list", dict := none, data := .seq ([] : List Value).toArray } = H2 at hns₁ hsb₁ ⊢
  have hC : H2.objs.size = s₁.heap.objs.size + 1 := by rw [← hH2, Heap.size_push]
  generalize hCg : H2.objs.size = C at hns₁ hsb₁ hC ⊢
  have old : ∀ b o, s₁.heap.get? b = some o → h₁.get? b = some o := fun b o e => hsb₁.extBut b o (by have := ltN (Heap.lt_size e); exact neN (by omega)) (Heap.get?_push_of_some _ (hH2 ▸ Heap.get?_push_of_some _ e))
  have hacc : h₁.get? s₁.heap.objs.size = some (lst []) := hsb₁.extBut _ _ (neN (by omega)) (Heap.get?_push_of_some _ (hH2 ▸ Heap.get?_push_size _ rfl))
  generalize hDg : s₁.heap.objs.size = Dl at *
  have hgle : g.objs.size ≤ Dl := Nat.le_trans gz (Nat.le_of_lt sz)
  have gne : ∀ {b o}, g.get? b = some o → b ≠ z ∧ b ≠ TO ∧ b ≠ i1 ∧ b ≠ i2 ∧ b ≠ C ∧ b ≠ Dl := fun e => znew gz gTO gi1 gi2 hgle hC e
  have hCD : C ≠ Dl := hC ▸ Nat.succ_ne_self _
  have W := WalksT.zip2 (prog := prog) (w := w) hh z TI TO i1 i2 l1 l2 D xs.toArray ys.toArray
  have hxl : xs.length = ns.length := hx.length
  have hyl : ys.length = ms.length := hy.length
  have hmin : min xs.toArray.size ys.toArray.size = ns.length := by rw [List.size_toArray, List.size_toArray]; omega
  rw [hmin] at W
  have hfpC := zfp hC sz sTI sTO si1 si2 (Nat.lt_of_lt_of_le gl1 hgle) (Nat.lt_of_lt_of_le gl2 hgle)
  have hwrC : ∀ b, b = C ∨ b = Dl → b ∉ [z, TO, i1, i2] := fun b hb hm => by
    have := hfpC b (W.sub b hm)
    rcases hb with rfl | rfl
    · exact this.1 rfl
    · exact this.2 rfl
  have gwr : ∀ {b o}, g.get? b = some o → b ∉ [z, TO, i1, i2] := fun {b o} e hm => by
    have := gne e
    simp only [List.mem_cons, List.not_mem_nil, or_false] at hm
    rcases hm with rfl | rfl | rfl | rfl
    · exact this.1 rfl
    · exact this.2.1 rfl
    · exact this.2.2.1 rfl
    · exact this.2.2.2.1 rfl
  have hC₀ : h₀.get? C = none := by
    cases e : h₀.get? C with
    | none => rfl
    | some o => exact absurd rfl (gne (F.keep _ _ e)).2.2.2.2.1
  have hD₀ : h₀.get? Dl = none := by
    cases e : h₀.get? Dl with
    | none => rfl
    | some o => exact absurd rfl (gne (F.keep _ _ e)).2.2.2.2.2
  have hLg : ∃ o, g.get? L = some o := by
    obtain ⟨o, e, _⟩ := ns_obj F.ns
    exact ⟨o, e⟩
  have hCL : C ≠ L := by obtain ⟨o, e⟩ := hLg; exact Ne.symm (gne e).2.2.2.2.1
  have hDL : Dl ≠ L := by obtain ⟨o, e⟩ := hLg; exact Ne.symm (gne e).2.2.2.2.2
  have loop : ∀ s₃ : Shared, s₃ = { s₁ with heap := h₁, toks := s₁.toks + ([] : List (Str × Value)).length } →
      codeAny (model prog w) A (.compLoop (.ListComp elt [⟨.Tuple [.Name a pa, .Name b pb] kk tp, iter, [], 0⟩] scope pos) 0 (.ref z) (.ref Dl) (compEnvC scope cl C env))
        (compPost (model prog w) A E none Q (.ref Dl) C) s₃ := by
    rintro s₃ rfl
    refine kcp_loop (ZInv (ZSt z TI TO i1 i2 l1 l2 xs ys) C Dl (List.zipWith f ns ms) g s₁ ns.length) ?_ (ns.length + 1)
      ⟨h₁, _, 0, [], _, rfl, Nat.zero_le _, rfl, .nil, rfl, W.frame _ _ _ st (fun b _ o e => old b o e), fun b o e => old b o (K b o e), hns₁, hacc⟩
    refine zinv_use ?_
    intro h' tk i vs m' hi hvs hvl hst hK hn' hD'
    by_cases hlt : i < ns.length
    · refine W.item i _ _ _ hlt hst fun T vals h₂ tk₂ hP _ hT hm hk₂ => ?_
      obtain ⟨x, y, hxx, hyy, rfl⟩ := hP
      obtain ⟨nx, tx, rfl, hnx⟩ := ints_get hx (by simpa using hxx)
      obtain ⟨ny, ty, rfl, hny⟩ := ints_get hy (by simpa using hyy)
      have hTwr := W.apart _ _ _ hm
      refine W.go _ _ _ i T _ _ _ hm fun h₃ hst₃ hk₃ => ?_
      have hT₃ : h₃.IsTuple T #[.int nx tx, .int ny ty] := hT.at fun o e => hk₃ T o hTwr e
      have hn₃ : h₃.Ns C m' := hn'.at' fun o e => hk₃ C o (hwrC C (.inl rfl)) (hk₂ C o (hwrC C (.inl rfl)) e)
      refine kcp_assign (env := compEnvC scope cl C env) hh hT₃ (lookup_relabel_local hxa) (lookup_relabel_local hxb) (by simp [compEnvC, relabel, hkind]) hn₃ fun h₄ tk₄ hn₄ hs₄ => ?_
      have hK₄ : ∀ b o, g.get? b = some o → h₄.get? b = some o := fun b o e => hs₄ b o (gne e).2.2.2.2.1 (hk₃ b o (gwr e) (hk₂ b o (gwr e) (hK b o e)))
      have hD₄ : h₄.get? Dl = some (lst vs) := hs₄ _ _ (Ne.symm hCD) (hk₃ _ _ (hwrC _ (.inr rfl)) (hk₂ _ _ (hwrC _ (.inr rfl)) hD'))
      have hst₄ := W.frame _ _ h₄ hst₃ (fun b hb o e => hs₄ b o (hfpC b hb).1 e)
      obtain ⟨oC, heC, hoC⟩ := ns_obj hn₄
      have F₄ : Fr h₀ L h₄ m := F.keeps hK₄
      have N₄ : News h₀ L h₄ ((C, oC) :: news) := fun q hq => by
        rcases List.mem_cons.mp hq with rfl | hq
        · exact ⟨heC, hCL, hC₀⟩
        · exact N.grown hK₄ q hq
      refine wpAny_mono (step nx ny tx ty C oC _ h₄ _ _ ⟨List.mem_of_getElem? hnx, List.mem_of_getElem? hny⟩ hoC (by simp [hab]) (by simp) F₄ N₄ (fun p hp => (gne (N p hp).1).2.2.2.2.1)) (fun v s₅ h₅ => ?_) fun _ _ e => e
      obtain ⟨t, tk', rfl, rfl⟩ := h₅
      refine append_at (hsz := by show vs.toArray.size ≤ sizeLine; rw [List.size_toArray, hvl]; exact Nat.le_trans hi hsz) hD₄ fun h₆ hs₆ hD₆ => ?_
      refine ⟨ns.length + 1 - (i + 1), by omega, h₆, tk', i + 1, vs ++ [.int (f nx ny) t], _, rfl, hlt, rfl, ?_, by simp [hvl], W.frame _ _ _ hst₄ (fun b hb o e => hs₆.extBut b o (hfpC b hb).2 e), fun b o e => hs₆.extBut b o (gne e).2.2.2.2.2 (hK₄ b o e), hn₄.sameBut hs₆ hCD, ?_⟩
      · have hzl : i < (List.zipWith f ns ms).length := by rw [List.length_zipWith]; omega
        rw [List.take_succ_eq_append_getElem hzl]
        refine ints_append hvs ?_
        have e : (List.zipWith f ns ms)[i] = f nx ny := by
          rw [List.getElem_zipWith]
          rw [List.getElem?_eq_some_iff] at hnx hny
          obtain ⟨_, e1⟩ := hnx
          obtain ⟨_, e2⟩ := hny
          rw [e1, e2]
        rw [e]
        exact .cons _ _ .nil
      · exact hD₆.trans (congrArg some (lst_snoc vs _))
    · obtain rfl : i = ns.length := by omega
      refine W.done _ _ _ hst fun h₂ tk₂ hk₂ => ?_
      have hzt : (List.zipWith f ns ms).take ns.length = List.zipWith f ns ms := List.take_of_length_le (by rw [List.length_zipWith]; omega)
      rw [hzt] at hvs
      have hn₂ : h₂.Ns C m' := hn'.at' fun o e => hk₂ C o (hwrC C (.inl rfl)) e
      have hD₂ := hk₂ _ _ (hwrC Dl (.inr rfl)) hD'
      have hK₂ : ∀ b o, g.get? b = some o → h₂.get? b = some o := fun b o e => hk₂ b o (gwr e) (hK b o e)
      refine ⟨m', hn₂, fun h'' hs'' => ?_⟩
      have hK₃ : ∀ b o, g.get? b = some o → h''.get? b = some o := fun b o e => hs''.extBut b o (gne e).2.2.2.2.1 (hK₂ b o e)
      exact fin Dl vs h'' tk₂ hvs (F.keeps hK₃) (fun q hq => by
        rcases List.mem_cons.mp hq with rfl | hq
        · exact ⟨hs''.extBut _ _ (Ne.symm hCD) hD₂, hDL, hD₀⟩
        · exact N.grown hK₃ q hq) (fun p hp => (gne (N p hp).1).2.2.2.2.2) (fun b o e => Nat.lt_of_lt_of_le (Heap.lt_size e) hgle) hK₃
  exact codeAny_compStart_list (loop _ rfl) (W.self 0 _ _ _ (W.frame _ _ _ st (fun b _ o e => old b o e)) (loop _ rfl))
theorem zsrc_call {l1 l2 : Addr} {xs ys : List Value} {ns ms : List Int} {news : List (Addr × Obj)} {f : Int → Int → Int} {elt : PySem.Expr} {a b : Str} {scope : Scope} {cl : List (Str × Addr)} {Q : Value → Shared → Prop} (hh : A.handled = none)
    (hl1 : s.heap.IsList l1 xs.toArray) (hl2 : s.heap.IsList l2 ys.toArray) (hx : IntsAre xs ns) (hy : IntsAre ys ms) (hlen : ns.length = ms.length) (hsz : ns.length ≤ sizeLine) (F : Fr h₀ L s.heap m) (N : News h₀ L s.heap news)
    (step : ∀ g, ZStep prog w A h₀ L m env elt a b scope cl news f ns ms { s with heap := g }) (fin : ∀ g, ZFin h₀ L m { s with heap := g } news s.heap (List.zipWith f ns ms) Q) :
    wpAny (model prog w) A (call (.type "zip") [.ref l1, .ref l2]) (ZSrc prog w A h₀ L m env elt a b scope cl Q) E s := by
  have hlt1 : l1 < s.heap.objs.size := by obtain ⟨o, e, _⟩ := hl1; exact Heap.lt_size e
  have hlt2 : l2 < s.heap.objs.size := by obtain ⟨o, e, _⟩ := hl2; exact Heap.lt_size e
  refine call_zip_2 hl1 hl2 fun h' hz hTI hTO hi1 hi2 hsz' hk => ?_
  refine ⟨_, _, _, _, _, l1, l2, xs, ys, ns, ms, news, f, s.heap, rfl, hh, ktu_apart _ _ _ hlt1 hlt2, ⟨hz, hTI, ⟨_, _, hTO⟩, hi1, hi2, hl1.at fun o e => hk _ o e, hl2.at fun o e => hk _ o e⟩, ⟨?_, ?_, ?_, ?_⟩, ⟨?_, ?_, ?_, ?_, ?_⟩, hk, hlt1, hlt2, hx, hy, hlen, hsz, F, N, step _, fin _⟩
  all_goals first | (show (_ : Nat) ≤ _; omega) | (show (_ : Nat) < h'.objs.size; omega)
end
end Mine
end SecZC
section SecGP
theorem Mine.offGP : True := by
  w_top off
  k_with_none
  trivial
namespace Mine
noncomputable def dot (row ns : List Int) : Int := (List.zipWith (· * ·) row ns).sum
theorem dot_sub (q : Int) : ∀ (r1 r2 ns : List Int), r1.length = ns.length → r2.length = ns.length → dot (List.zipWith (fun a b => a - q * b) r1 r2) ns = dot r1 ns - q * dot r2 ns
  | [], [], [], _, _ => by simp [dot]
  | a :: r1, b :: r2, n :: ns, h1, h2 => by
    have ih := dot_sub q r1 r2 ns (by simpa using h1) (by simpa using h2)
    unfold dot at ih ⊢
    simp only [List.zipWith_cons_cons, List.sum_cons] at ih ⊢
    rw [ih, Int.sub_mul, Int.mul_add, Int.mul_assoc]
    omega
  | [], _ :: _, [], _, h2 => by simp at h2
  | _ :: _, _, [], h1, _ => by simp at h1
  | [], _, _ :: _, h1, _ => by simp at h1
  | _ :: _, [], _ :: _, _, h2 => by simp at h2
theorem dot_unit : ∀ (ns : List Int) (s k : Nat), s ≤ k → k < s + ns.length → dot ((List.range' s ns.length).map fun j => if j = k then (1 : Int) else 0) ns = ns.getD (k - s) 0
  | [], s, k, h1, h2 => by simp at h2; omega
  | n :: ns, s, k, h1, h2 => by
    rw [List.length_cons, List.range'_succ]
    unfold dot
    simp only [List.map_cons, List.zipWith_cons_cons, List.sum_cons]
    by_cases e : s = k
    · subst e
      have z : ∀ (ms : List Int) (t : Nat), s < t → (List.zipWith (· * ·) ((List.range' t ms.length).map fun j => if j = s then (1 : Int) else 0) ms).sum = 0 := by
        intro ms
        induction ms with
        | nil => intro t _; simp
        | cons a ms ih =>
          intro t ht
          rw [List.length_cons, List.range'_succ]
          simp only [List.map_cons, List.zipWith_cons_cons, List.sum_cons]
          rw [ih (t + 1) (by omega), if_neg (by omega)]; simp
      rw [z ns (s + 1) (by omega)]
      simp
    · have ih := dot_unit ns (s + 1) k (by omega) (by rw [List.length_cons] at h2; omega)
      unfold dot at ih
      rw [ih, if_neg e]
      obtain ⟨d, hd⟩ : ∃ d, k - s = d + 1 := ⟨k - s - 1, by omega⟩
      rw [hd, show k - (s + 1) = d by omega]
      simp
noncomputable def unitRow (n k : Nat) : List Int := (List.range n).map fun j => if j = k then 1 else 0
noncomputable def units (ns : List Int) : List (Int × List Int) := ns.zipIdx.map fun x => (x.1, unitRow ns.length x.2)
theorem units_take {ns : List Int} {i : Nat} (hi : i < ns.length) : (units ns).take (i + 1) = (units ns).take i ++ [(ns.getD i 0, unitRow ns.length i)] := by
  have hl : i < (units ns).length := by simpa [units] using hi
  rw [List.take_succ_eq_append_getElem hl]
  congr 2
  simp [units, List.getD, hi]
structure Good (ns : List Int) (zs : List (Int × List Int)) : Prop where
  it : ∀ z ∈ zs, 0 < z.1 ∧ z.1 < 2 ^ 20 ∧ z.2.length = ns.length ∧ dot z.2 ns = z.1
  ne : zs ≠ []
  len : zs.length ≤ ns.length
  dv : ∀ d : Int, (∀ z ∈ zs, d ∣ z.1) → ∀ n ∈ ns, d ∣ n
noncomputable def msum (zs : List (Int × List Int)) : Nat := (zs.map fun z => z.1.toNat).sum
theorem Good.perm {ns : List Int} {zs zs' : List (Int × List Int)} (p : zs'.Perm zs) (g : Good ns zs) : Good ns zs' :=
  ⟨fun z hz => g.it z (p.mem_iff.mp hz), fun e => g.ne (by subst e; exact p.symm.eq_nil), by rw [p.length_eq]; exact g.len, fun d hd => g.dv d fun z hz => hd z (p.mem_iff.mpr hz)⟩
theorem msum_perm {zs zs' : List (Int × List Int)} (p : zs'.Perm zs) : msum zs' = msum zs := (p.map _).sum_nat
theorem good_units {ns : List Int} (hne : ns ≠ []) (h : ∀ n ∈ ns, 0 < n ∧ n < 2 ^ 20) : Good ns (units ns) := by
  have hm : ∀ z ∈ units ns, ∃ i, i < ns.length ∧ z = (ns.getD i 0, unitRow ns.length i) := fun z hz => by
    obtain ⟨x, hx, rfl⟩ := List.mem_map.mp hz
    obtain ⟨n, i⟩ := x
    rw [List.mem_zipIdx_iff_getElem?] at hx
    simp only at hx
    have hi := (List.getElem?_eq_some_iff.mp hx).1
    exact ⟨i, hi, by simp [List.getD, hx]⟩
  refine ⟨fun z hz => ?_, fun e => hne ?_, by simp [units], fun d hd n hn => ?_⟩
  · obtain ⟨i, hi, rfl⟩ := hm z hz
    have hg : ns.getD i 0 ∈ ns := by rw [List.getD_eq_getElem?_getD, List.getElem?_eq_getElem hi, Option.getD_some]; exact List.getElem_mem hi
    refine ⟨(h _ hg).1, (h _ hg).2, by simp [unitRow], ?_⟩
    have := dot_unit ns 0 i (by omega) (by omega)
    rw [Nat.sub_zero] at this
    rw [← this]
    simp only [unitRow, List.range_eq_range']
  · have := congrArg List.length e; simp [units] at this; exact this
  · obtain ⟨i, hi, e⟩ := List.getElem_of_mem hn
    have hz : (n, unitRow ns.length i) ∈ units ns := by
      refine List.mem_map.mpr ⟨(n, i), ?_, rfl⟩
      rw [List.mem_zipIdx_iff_getElem?]
      simp [List.getElem?_eq_getElem hi, e]
    exact hd _ hz
section
variable {ns : List Int} {x y : Int × List Int} {zs : List (Int × List Int)}
theorem div_facts {n m : Int} (hm : 0 < m) (hn : 0 < n) : 0 ≤ n.fmod m ∧ n.fmod m < m ∧ n.fdiv m * m + n.fmod m = n ∧ n.fmod m ≤ n := by
  have h1 := Int.emod_nonneg n (show m ≠ 0 by omega)
  have h2 := Int.emod_lt_of_pos n hm
  have h3 := Int.mul_fdiv_add_fmod n m
  rw [Int.mul_comm] at h3
  have h4 : n.fmod m = n % m := Int.fmod_eq_emod_of_nonneg _ (by omega)
  have h5 := Int.fdiv_nonneg (by omega : 0 ≤ n) (by omega : 0 ≤ m)
  have h6 : 0 ≤ n.fdiv m * m := Int.mul_nonneg h5 (by omega)
  refine ⟨by omega, by omega, h3, by omega⟩
theorem div_le {n m : Int} (hm : 0 < m) (hn : 0 < n) : 0 ≤ n.fdiv m ∧ n.fdiv m ≤ n := by
  have h5 := Int.fdiv_nonneg (by omega : 0 ≤ n) (by omega : 0 ≤ m)
  have h3 := Int.mul_fdiv_add_fmod n m
  have h4 : 0 ≤ n.fmod m := by rw [Int.fmod_eq_emod_of_nonneg _ (by omega)]; exact Int.emod_nonneg n (by omega)
  have h6 : 1 * n.fdiv m ≤ m * n.fdiv m := Int.mul_le_mul_of_nonneg_right (by omega) h5
  exact ⟨h5, by omega⟩
theorem dvd_fmod {d n m : Int} (h1 : d ∣ m) (h2 : d ∣ n.fmod m) : d ∣ n := by
  have h3 := Int.mul_fdiv_add_fmod n m
  rw [← h3]
  exact Int.dvd_add (Int.dvd_trans h1 (Int.dvd_mul_right _ _)) h2
theorem Good.zero (g : Good ns (x :: zs)) (hy : y ∈ zs) (h0 : x.1.fmod y.1 = 0) : Good ns zs ∧ msum zs < msum (x :: zs) := by
  have gx := g.it x List.mem_cons_self
  refine ⟨⟨fun z hz => g.it z (List.mem_cons_of_mem _ hz), fun e => (by subst e; cases hy), by have := g.len; simp only [List.length_cons] at this; omega, fun d hd => g.dv d fun z hz => ?_⟩, ?_⟩
  · rcases List.mem_cons.mp hz with rfl | hz
    · exact dvd_fmod (hd y hy) (by rw [h0]; exact Int.dvd_zero _)
    · exact hd z hz
  · unfold msum
    simp only [List.map_cons, List.sum_cons]
    omega
theorem Good.rest (g : Good ns (x :: zs)) (hy : y ∈ zs) (hle : y.1 ≤ x.1) (h0 : x.1.fmod y.1 ≠ 0) :
    Good ns (zs ++ [(x.1.fmod y.1, List.zipWith (fun a b => a - x.1.fdiv y.1 * b) x.2 y.2)]) ∧ msum (zs ++ [(x.1.fmod y.1, List.zipWith (fun a b => a - x.1.fdiv y.1 * b) x.2 y.2)]) < msum (x :: zs) := by
  have gx := g.it x List.mem_cons_self
  have gy := g.it y (List.mem_cons_of_mem _ hy)
  have hd := div_facts gy.1 gx.1
  refine ⟨⟨fun z hz => ?_, by simp, by have := g.len; simp only [List.length_cons, List.length_append, List.length_nil] at this ⊢; omega, fun d hd' => g.dv d fun z hz => ?_⟩, ?_⟩
  · rcases List.mem_append.mp hz with hz | hz
    · exact g.it z (List.mem_cons_of_mem _ hz)
    · rw [List.mem_singleton.mp hz]
      refine ⟨by dsimp only; omega, by dsimp only; omega, by dsimp only; rw [List.length_zipWith, gx.2.2.1, gy.2.2.1]; omega, ?_⟩
      dsimp only
      rw [dot_sub _ _ _ _ gx.2.2.1 gy.2.2.1, gx.2.2.2, gy.2.2.2]
      omega
  · rcases List.mem_cons.mp hz with rfl | hz
    · exact dvd_fmod (hd' y (List.mem_append_left _ hy)) (hd' _ (List.mem_append_right _ List.mem_cons_self))
    · exact hd' z (List.mem_append_left _ hz)
  · unfold msum
    simp only [List.map_cons, List.sum_cons, List.map_append, List.sum_append, List.map_nil, List.sum_nil]
    omega
end
theorem dvd_dot {d : Int} : ∀ (row ns : List Int), (∀ n ∈ ns, d ∣ n) → d ∣ dot row ns
  | [], _, _ => by simp [dot]
  | _ :: _, [], _ => by simp [dot]
  | a :: r, n :: ns, h => by
    have ih := dvd_dot r ns fun x hx => h x (List.mem_cons_of_mem _ hx)
    unfold dot at ih ⊢
    simp only [List.zipWith_cons_cons, List.sum_cons]
    exact Int.dvd_add (Int.dvd_trans (h n List.mem_cons_self) (Int.dvd_mul_left _ _)) ih
theorem gcd_same {ns row : List Int} {g g2 : Int} (h1 : dot row ns = g) (h2 : ∀ n ∈ ns, g ∣ n) (h3 : 0 < g) (h4 : 0 < g2) (h5 : ∀ d, d ∣ g2 ↔ ∀ n ∈ ns, d ∣ n) : g2 = g := by
  have a := Int.le_of_dvd h4 ((h5 g).mpr h2)
  have b := Int.le_of_dvd h3 (h1 ▸ dvd_dot row ns ((h5 g2).mp (Int.dvd_refl _)))
  omega
theorem Good.one {ns : List Int} {z : Int × List Int} (g : Good ns [z]) : 0 < z.1 ∧ z.1 < 2 ^ 20 ∧ z.2.length = ns.length ∧ dot z.2 ns = z.1 ∧ ∀ n ∈ ns, z.1 ∣ n := by
  have h := g.it z List.mem_cons_self
  exact ⟨h.1, h.2.1, h.2.2.1, h.2.2.2, g.dv z.1 fun y hy => by rw [List.mem_singleton.mp hy]; exact Int.dvd_refl _⟩
end Mine
end SecGP
section SecWH
theorem Mine.offWH : True := by
  w_top off
  k_with_none
  trivial
open PySem PySem.W PyProof.Rows PySem.Spec PySem.Calls
set_option maxRecDepth 100000
set_option maxHeartbeats 4000000
namespace Mine
theorem lk_some {W K : Frag} {b : Addr} (h : (∃ o, (b, o) ∈ W) ∨ ∃ o, K.lookup b = some o) : ∃ o, (W ++ K).lookup b = some o := by
  induction W with
  | nil =>
    rcases h with ⟨o, h⟩ | h
    · cases h
    · exact h
  | cons p r ih =>
    obtain ⟨a, x⟩ := p
    rw [List.cons_append, List.lookup_cons]
    by_cases e : (b == a) = true
    · rw [e]; exact ⟨_, rfl⟩
    · rw [Bool.not_eq_true] at e; rw [e]
      refine ih ?_
      rcases h with ⟨o, h⟩ | h
      · rcases List.mem_cons.mp h with q | q
        · cases q; simp at e
        · exact .inl ⟨o, q⟩
      · exact .inr h
theorem subH {W W' K : Frag} {h : Heap} (hs : ∀ p ∈ W, p ∈ W') (hW : ∀ p ∈ W', h.get? p.1 = some p.2) (X : ∀ b o, K.lookup b = some o → h.get? b = some o) : Sub (W ++ K) (W' ++ K) := fun b o e => by
  have at_ : ∀ {V : Frag} {o : Obj}, (∀ p ∈ V, h.get? p.1 = some p.2) → (V ++ K).lookup b = some o → h.get? b = some o := fun {V o} hV e => by
    rcases lk_app e with q | q
    · exact hV _ q
    · exact X _ _ q
  have h1 := at_ (fun p hp => hW p (hs p hp)) e
  obtain ⟨o', e'⟩ : ∃ o', (W' ++ K).lookup b = some o' := lk_some (by
    rcases lk_app e with q | q
    · exact .inl ⟨_, hs _ q⟩
    · exact .inr ⟨_, q⟩)
  have h2 := at_ hW e'
  rw [h1] at h2; cases h2; exact e'
inductive WJ (P : Params) (KF : Frag) (Hl ck ct Nl : Addr) (vs : List Value) (ns : List Int) (kk : Nat) (W0 : List (Addr × Obj)) (n : Nat) (m : Str → Option Value) (news : List (Addr × Obj))  : Prop
  | mk (zs : _) (c : _) (W : _) (o1 : _) (o2 : _) (x1 : _) (x2 : _) (ps30 : _) (ps37 : _) (w1 : m (Str.ofString "heap") = some (.ref Hl)) (w2 : m (Str.ofString "key") = some (.ref 201)) (w3 : m (Str.ofString "numbers") = some (.ref Nl)) (w4 : m (Str.ofString "right") = some (.bool true)) (w5 : news = (Hl, listOf (refs zs).toArray c) :: (ck, o1) :: (ct, o2) :: (Nl, listOf vs.toArray kk) :: (30, tabObj ps30) :: (37, tabObj ps37) :: W) (w6 : o1.data = .cell x1) (w7 : o2.data = .cell x2) (w8 : (∀ p ∈ W, p.1 ≠ Hl ∧ p.1 ≠ ck ∧ p.1 ≠ ct ∧ p.1 ≠ Nl ∧ p.1 ≠ 30 ∧ p.1 ≠ 37)) (w9 : Sub (KF ++ hd1.heap_39 P) (W ++ hd1.heap_39 P)) (w10 : (∀ p ∈ W0, p ∈ W)) (w11 : HeapL (preZ preGt) zs) (w12 : (∀ z ∈ zs, It1 (W ++ hd1.heap_39 P) 201 ns.length z.1 z.2)) (w13 : T30 ps30 W) (w14 : T37 ps37 W) (w15 : Good ns (zs.map (·.2))) (w16 : n = msum (zs.map (·.2)))
inductive HRet (Nl : Addr) (vs : List Value) (ns : List Int) (kk : Nat) (W0 : List (Addr × Obj)) (r : Value) (news' : List (Addr × Obj)) : Prop
  | mk (t : _) (g : _) (tg : _) (rr : _) (rvs : _) (rc : _) (row : _) (ps30 : _) (ps37 : _) (ps58 : _) (W' : _) (w1 : r = .ref t) (w2 : news' = (t, tupO #[.bool true, .int g tg, .ref rr]) :: (Nl, listOf vs.toArray kk) :: (30, tabObj ps30) :: (37, tabObj ps37) :: W') (w3 : T30 ps30 W') (w4 : T37 ps37 W') (w5 : (∀ p ∈ W0, p ∈ W')) (w6 : (58, tabObj ps58) ∈ W') (w7 : (∀ p ∈ W', p.1 ≠ Nl ∧ p.1 ≠ 30 ∧ p.1 ≠ 37)) (w8 : (∀ p ∈ (Nl, listOf vs.toArray kk) :: (30, tabObj ps30) :: (37, tabObj ps37) :: W', p.1 < t)) (w9 : (rr, listOf (List.toArray rvs) rc) ∈ W') (w10 : IntsAre rvs row) (w11 : row.length = ns.length) (w12 : dot row ns = g) (w13 : 0 < g) (w14 : g < 2 ^ 20) (w15 : ∀ n ∈ ns, g ∣ n)
noncomputable def noList (K : Frag) : Bool := K.all fun p => match p.2.data with | .seq _ _ => p.2.cls != .type "list" | _ => true
theorem noList_use {K : Frag} (h : noList K = true) {b : Addr} {a : Array Value} {c : Nat} : K.lookup b ≠ some (listOf a c) := fun e => by
  have := List.all_eq_true.mp h _ (mem_of_lk e)
  simp [PySem.W.listOf] at this
noncomputable def noTup3 (K : Frag) : Bool := K.all fun p => match p.2.data with | .seq a _ => (match a.toList with | [.ref _, .int _ _, .ref _] => false | _ => true) | _ => true
theorem noTup3_use {K : Frag} (h : noTup3 K = true) {b : Addr} {x z : Addr} {y : Int} {t : Tok} : K.lookup b ≠ some (tupO #[.ref x, .int y t, .ref z]) := fun e => by
  have := List.all_eq_true.mp h _ (mem_of_lk e)
  simp [tupO] at this
theorem noTup31 (P : Params) : noTup3 (hd1.heap_39 P) = true := by kernel_rfl
theorem noList1 (P : Params) : noList (hd1.heap_39 P) = true := by kernel_rfl
theorem it1_mem {P : Params} {W : Frag} {C : Addr} {len : Nat} {v : Addr} {a : Int × List Int} (h : It1 (W ++ hd1.heap_39 P) C len v a) :
    ∃ k r t c vs, (v, tupO #[.ref k, .int a.1 t, .ref r]) ∈ W ∧ (r, PySem.W.listOf (List.toArray vs) c) ∈ W ∧ IntsAre vs a.2 ∧ a.2.length = len := by
  obtain ⟨k, r, t, t', c, vs, e1, _, e3, hi, hl⟩ := h
  refine ⟨k, r, t, c, vs, ?_, ?_, hi, hl⟩
  · rcases lk_app e1 with q | q
    · exact q
    · exact absurd q (noTup3_use (noTup31 P))
  · rcases lk_app e3 with q | q
    · exact q
    · exact absurd q (noList_use (noList1 P))
theorem newsSet {g h h' : Heap} {L Hl : Addr} {o o' : Obj} {R : List (Addr × Obj)} (N : News g L h ((Hl, o) :: R)) (N' : News g L h' [(Hl, o')]) (K : Kept h [(Hl, o)] h') (hR : ∀ q ∈ R, q.1 ≠ Hl) : News g L h' ((Hl, o') :: R) :=
  news_back (R := [(Hl, o)]) (R' := [(Hl, o')]) (W := R) N N' K fun p hp q hq => by rw [List.mem_singleton.mp hp]; exact hR q hq
section
variable {g h : Heap} {L : Addr} {W : List (Addr × Obj)} {a b c d e n t x x30 x37 : Addr × Obj}
theorem idmPrep (N : News g L h (d :: a :: b :: c :: n :: x30 :: x37 :: W)) : News g L h (x30 :: x37 :: d :: a :: b :: c :: n :: W) := fun p hp => N p (by
  simp only [List.mem_cons] at hp ⊢
  rcases hp with h | h | h | h | h | h | h | h <;> simp [h])
theorem idmBack (N : News g L h (t :: x30 :: x37 :: c :: d :: e :: a :: b :: n :: x :: W)) : News g L h (a :: b :: n :: x :: x30 :: x37 :: t :: c :: d :: e :: W) := fun p hp => N p (by
  simp only [List.mem_cons] at hp ⊢
  rcases hp with h | h | h | h | h | h | h | h | h | h | h <;> simp [h])
end
theorem t30_off {ps : Array Value} {W Wd : List (Addr × Obj)} {c : Addr} {P : Addr → Prop} (T : T30 ps W) (h : ps = #[rawInt 32, rawInt 4, .ref c] ∨ ∀ p ∈ Wd, p.1 < c) (hW : ∀ p ∈ W, P p.1) (hn : (∀ p ∈ Wd, p.1 < c) → P c) : P c := by
  rcases h with rfl | h
  · rcases T with q | ⟨c', oc, _, _, q, hm, _⟩
    · simp at q
    · simp only [Array.mk.injEq, List.cons.injEq, Value.ref.injEq, and_true, true_and] at q
      subst q; exact hW _ hm
  · exact hn h
theorem t37_off {ps : Array Value} {W Wd : List (Addr × Obj)} {c : Addr} {P : Addr → Prop} (T : T37 ps W) (h : ps = #[rawInt 47, rawInt 4, .ref c] ∨ ∀ p ∈ Wd, p.1 < c) (hW : ∀ p ∈ W, P p.1) (hn : (∀ p ∈ Wd, p.1 < c) → P c) : P c := by
  rcases h with rfl | h
  · rcases T with q | ⟨c', oc, _, _, q, hm, _⟩
    · simp at q
    · simp only [Array.mk.injEq, List.cons.injEq, Value.ref.injEq, and_true, true_and] at q
      subst q; exact hW _ hm
  · exact hn h
def Off6 (Hl ck ct Nl : Addr) (a : Addr) : Prop := a ≠ Hl ∧ a ≠ ck ∧ a ≠ ct ∧ a ≠ Nl ∧ a ≠ 30 ∧ a ≠ 37
theorem off6_of {Hl ck ct Nl x : Addr} (h1 : Hl < x) (h2 : ck < x) (h3 : ct < x) (h4 : Nl < x) (h5 : 37 < ck) : Off6 Hl ck ct Nl x :=
  ⟨Nat.ne_of_gt h1, Nat.ne_of_gt h2, Nat.ne_of_gt h3, Nat.ne_of_gt h4, Nat.ne_of_gt (Nat.lt_trans (Nat.lt_trans (by decide : (30 : Nat) < 37) h5) h2), Nat.ne_of_gt (Nat.lt_trans h5 h2)⟩
theorem off6_new {Hl ck ct Nl x : Addr} {d h a b n : Obj} {D : Addr} {W : List (Addr × Obj)} (h5 : 37 < ck) (h : ∀ p ∈ (D, d) :: (Hl, h) :: (ck, a) :: (ct, b) :: (Nl, n) :: W, p.1 < x) : Off6 Hl ck ct Nl x :=
  off6_of (h _ (.tail _ (.head _))) (h _ (.tail _ (.tail _ (.head _)))) (h _ (.tail _ (.tail _ (.tail _ (.head _))))) (h _ (.tail _ (.tail _ (.tail _ (.tail _ (.head _)))))) h5
theorem off6_new' {Hl ck ct Nl x : Addr} {h a b n : Obj} {W : List (Addr × Obj)} (h5 : 37 < ck) (h : ∀ p ∈ (Hl, h) :: (ck, a) :: (ct, b) :: (Nl, n) :: W, p.1 < x) : Off6 Hl ck ct Nl x :=
  off6_of (h _ (.head _)) (h _ (.tail _ (.head _))) (h _ (.tail _ (.tail _ (.head _)))) (h _ (.tail _ (.tail _ (.tail _ (.head _))))) h5
theorem off6_old {Hl ck ct Nl x : Addr} {s h : Heap} {L : Addr} {oh a b n : Obj} {W : List (Addr × Obj)} (h5 : 37 < ck) (N : News s L h ((Hl, oh) :: (ck, a) :: (ct, b) :: (Nl, n) :: W)) (hx : ∀ b o, h.get? b = some o → b < x) : Off6 Hl ck ct Nl x :=
  off6_of (hx _ _ (N _ (.head _)).1) (hx _ _ (N _ (.tail _ (.head _))).1) (hx _ _ (N _ (.tail _ (.tail _ (.head _)))).1) (hx _ _ (N _ (.tail _ (.tail _ (.tail _ (.head _))))).1) h5
theorem off6_up {Hl ck ct Nl x y : Addr} {s h : Heap} {L : Addr} {oh a b n : Obj} {W : List (Addr × Obj)} (h5 : 37 < ck) (N : News s L h ((Hl, oh) :: (ck, a) :: (ct, b) :: (Nl, n) :: W)) (hx : ∀ b o, h.get? b = some o → b < x) (hy : x < y) : Off6 Hl ck ct Nl y :=
  off6_old h5 N fun b o e => Nat.lt_trans (hx b o e) hy
theorem keyBack {g h : Heap} {L : Addr} {p1 p2 a b c d e f : Addr × Obj} {W : List (Addr × Obj)} (N : News g L h (p1 :: p2 :: ([a, b, c, d, e, f] ++ W))) : News g L h (a :: b :: c :: d :: e :: f :: p1 :: p2 :: W) := fun p hp => N p (by
  simp only [List.mem_cons, List.mem_append, List.not_mem_nil, or_false] at hp ⊢
  rcases hp with h | h | h | h | h | h | h | h | h <;> simp [h])
theorem twoBack {g h : Heap} {L : Addr} {p1 p2 a b c d e f : Addr × Obj} {W : List (Addr × Obj)} (N : News g L h (p1 :: p2 :: a :: b :: c :: d :: e :: f :: W)) : News g L h (a :: b :: c :: d :: e :: f :: p1 :: p2 :: W) := keyBack N
theorem endPick {g h : Heap} {L : Addr} {t a b c d e f : Addr × Obj} {W : List (Addr × Obj)} (N : News g L h (t :: a :: b :: c :: d :: e :: f :: W)) : News g L h (t :: d :: e :: f :: W) := fun p hp => N p (by
  simp only [List.mem_cons] at hp ⊢
  rcases hp with h | h | h | h | h <;> simp [h])
theorem oneBack {g h : Heap} {L : Addr} {p1 a b c d e f : Addr × Obj} {W : List (Addr × Obj)} (N : News g L h (p1 :: a :: b :: c :: d :: e :: f :: W)) : News g L h (a :: b :: c :: d :: e :: f :: p1 :: W) := fun p hp => N p (by
  simp only [List.mem_cons] at hp ⊢
  rcases hp with h | h | h | h | h | h | h | h <;> simp [h])
theorem off6_gt {Hl ck ct Nl x : Addr} {oh a b n : Obj} {W : List (Addr × Obj)} (h5 : 37 < ck) (hx : ∀ p ∈ (Hl, oh) :: (ck, a) :: (ct, b) :: (Nl, n) :: W, p.1 < x) : Off6 Hl ck ct Nl x := off6_new' h5 hx
theorem lk_of_mem {W K : Frag} {h : Heap} {b : Addr} {o : Obj} (hm : (b, o) ∈ W) (hW : ∀ p ∈ W, h.get? p.1 = some p.2) (X : ∀ b o, K.lookup b = some o → h.get? b = some o) : (W ++ K).lookup b = some o := by
  obtain ⟨o', e⟩ := lk_some (W := W) (K := K) (b := b) (.inl ⟨o, hm⟩)
  have h1 := hW _ hm
  have h2 : h.get? b = some o' := by
    rcases lk_app e with q | q
    · exact hW _ q
    · exact X _ _ q
  rw [h1] at h2; cases h2; exact e
theorem it1_use {P : Params} {W : Frag} {C : Addr} {len : Nat} {v : Addr} {n : Int} {row : List Int} {G : Prop} (h : It1 (W ++ hd1.heap_39 P) C len v (n, row))
    (k : ∀ k r t c vs, (v, tupO #[.ref k, .int n t, .ref r]) ∈ W → (r, PySem.W.listOf (List.toArray vs) c) ∈ W → IntsAre vs row → row.length = len → G) : G := by
  obtain ⟨a, b, c, d, e, f, g, h1, h2⟩ := it1_mem h
  exact k a b c d e f g h1 h2
theorem popUse {h₀ h1 : Heap} {L : Addr} {m : Str → Option Value} {ι : Type} {pre : ι → ι → Prop} {H : Addr} {c0 : Nat} {zs zs0 : List (Addr × ι)} {G : Value → Heap → Nat → Prop}
    (k : ∀ xv xa zs' c' h' tk', Fr h₀ L h' m → News h₀ L h' [(H, PySem.W.listOf (refs zs').toArray c')] → Kept h1 [(H, PySem.W.listOf (refs zs0).toArray c0)] h' → zs[0]? = some (xv, xa) → ((xv, xa) :: zs').Perm zs → HeapL (preZ pre) zs' → G (.ref xv) h' tk') :
    ∀ r news' h' tk', Fr h₀ L h' m → News h₀ L h' news' → Kept h1 [(H, PySem.W.listOf (refs zs0).toArray c0)] h' → PopRet (fun W => W = []) pre H zs r news' → G r h' tk' := by
  rintro r news' h' tk' F N K ⟨⟨xv, xa⟩, zs', W', c', rfl, h0, rfl, hp, hH, rfl, _⟩
  exact k _ _ _ _ _ _ F N K h0 hp hH
theorem pushUse {h₀ h1 : Heap} {L : Addr} {m : Str → Option Value} {ι : Type} {pre : ι → ι → Prop} {H : Addr} {c c0 : Nat} {zs zs0 : List (Addr × ι)} {G : Value → Heap → Nat → Prop}
    (k : ∀ zs' h' tk', Fr h₀ L h' m → News h₀ L h' [(H, PySem.W.listOf (refs zs').toArray c)] → Kept h1 [(H, PySem.W.listOf (refs zs0).toArray c0)] h' → zs'.Perm zs → HeapL (preZ pre) zs' → G .none h' tk') :
    ∀ r news' h' tk', Fr h₀ L h' m → News h₀ L h' news' → Kept h1 [(H, PySem.W.listOf (refs zs0).toArray c0)] h' → PushRet (fun W => W = []) pre H c zs r news' → G r h' tk' := by
  rintro r news' h' tk' F N K ⟨rfl, zs', W', rfl, hp, hH, rfl, _⟩
  exact k _ _ _ F N K hp hH
theorem wj_use {P : Params} {KF : Frag} {Hl ck ct Nl L : Addr} {h₀ : Heap} {vs : List Value} {ns : List Int} {kk : Nat} {W0 : List (Addr × Obj)} {G : Nat → (Str → Option Value) → Heap → Nat → Prop}
    (k : ∀ m h₁ tk zs c W o1 o2 x1 x2 ps30 ps37, Fr h₀ L h₁ m → News h₀ L h₁ ((Hl, PySem.W.listOf (refs zs).toArray c) :: (ck, o1) :: (ct, o2) :: (Nl, PySem.W.listOf vs.toArray kk) :: (30, tabObj ps30) :: (37, tabObj ps37) :: W) →
      m (Str.ofString "heap") = some (.ref Hl) → m (Str.ofString "key") = some (.ref 201) → m (Str.ofString "numbers") = some (.ref Nl) → m (Str.ofString "right") = some (.bool true) → o1.data = .cell x1 → o2.data = .cell x2 →
      (∀ p ∈ W, Off6 Hl ck ct Nl p.1) → Sub (KF ++ hd1.heap_39 P) (W ++ hd1.heap_39 P) → (∀ p ∈ W0, p ∈ W) → HeapL (preZ preGt) zs → (∀ z ∈ zs, It1 (W ++ hd1.heap_39 P) 201 ns.length z.1 z.2) →
      T30 ps30 W → T37 ps37 W → Good ns (zs.map (·.2)) → G (msum (zs.map (·.2))) m h₁ tk) :
    ∀ n m₁ news₁ h₁ tk₁, Fr h₀ L h₁ m₁ → News h₀ L h₁ news₁ → WJ P KF Hl ck ct Nl vs ns kk W0 n m₁ news₁ → G n m₁ h₁ tk₁ := by
  rintro n m₁ _ h₁ tk₁ F N ⟨zs, c, W, o1, o2, x1, x2, ps30, ps37, e1, e2, e3, e4, rfl, a1, a2, a3, a4, a5, a6, a7, a8, a9, b1, rfl⟩
  exact k _ _ _ _ _ _ _ _ _ _ _ _ F N e1 e2 e3 e4 a1 a2 a3 a4 a5 a6 a7 a8 a9 b1
theorem rh5 {Hl ck ct Nl : Addr} {o1 o2 n a b : Obj} {W : List (Addr × Obj)} (h : ck < Hl ∧ ct < Hl ∧ Nl < Hl ∧ 30 < Hl ∧ 37 < Hl) (hW : ∀ p ∈ W, Off6 Hl ck ct Nl p.1) : ∀ q ∈ (ck, o1) :: (ct, o2) :: (Nl, n) :: (30, a) :: (37, b) :: W, q.1 ≠ Hl := fun q hq => by
  simp only [List.mem_cons] at hq
  rcases hq with rfl | rfl | rfl | rfl | rfl | hq
  · exact Nat.ne_of_lt h.1
  · exact Nat.ne_of_lt h.2.1
  · exact Nat.ne_of_lt h.2.2.1
  · exact Nat.ne_of_lt h.2.2.2.1
  · exact Nat.ne_of_lt h.2.2.2.2
  · exact (hW q hq).1
theorem rck4 {Hl ck ct Nl : Addr} {o2 n a b : Obj} {W : List (Addr × Obj)} (h : ct < ck ∧ Nl < ck ∧ 30 < ck ∧ 37 < ck) (hW : ∀ p ∈ W, Off6 Hl ck ct Nl p.1) : ∀ q ∈ (ct, o2) :: (Nl, n) :: (30, a) :: (37, b) :: W, q.1 ≠ ck := fun q hq => by
  simp only [List.mem_cons] at hq
  rcases hq with rfl | rfl | rfl | rfl | hq
  · exact Nat.ne_of_lt h.1
  · exact Nat.ne_of_lt h.2.1
  · exact Nat.ne_of_lt h.2.2.1
  · exact Nat.ne_of_lt h.2.2.2
  · exact (hW q hq).2.1
theorem rct3 {Hl ck ct Nl : Addr} {n a b : Obj} {W : List (Addr × Obj)} (h : Nl < ct ∧ 30 < ct ∧ 37 < ct) (hW : ∀ p ∈ W, Off6 Hl ck ct Nl p.1) : ∀ q ∈ (Nl, n) :: (30, a) :: (37, b) :: W, q.1 ≠ ct := fun q hq => by
  simp only [List.mem_cons] at hq
  rcases hq with rfl | rfl | rfl | hq
  · exact Nat.ne_of_lt h.1
  · exact Nat.ne_of_lt h.2.1
  · exact Nat.ne_of_lt h.2.2
  · exact (hW q hq).2.2.1
theorem rD {D Hl ck ct Nl x : Addr} {d oh o1 o2 n : Obj} {W : List (Addr × Obj)} (h : D ≠ x ∧ Hl ≠ x ∧ ck ≠ x ∧ ct ≠ x ∧ Nl ≠ x) (hW : ∀ p ∈ W, p.1 ≠ x) : ∀ q ∈ (D, d) :: (Hl, oh) :: (ck, o1) :: (ct, o2) :: (Nl, n) :: W, q.1 ≠ x := fun q hq => by
  simp only [List.mem_cons] at hq
  rcases hq with rfl | rfl | rfl | rfl | rfl | hq
  · exact h.1
  · exact h.2.1
  · exact h.2.2.1
  · exact h.2.2.2.1
  · exact h.2.2.2.2
  · exact hW q hq
end Mine
end SecWH
section SecLM
theorem Mine.offLM : True := by
  w_top off
  k_with_none
  trivial
open PySem PySem.W PyProof.Rows PySem.Spec PySem.Calls
set_option maxRecDepth 100000
set_option maxHeartbeats 4000000
namespace Mine
theorem rulesLM : True := by
  k_with_none
  k_with "call ref" => refine stop ?_
  k_with "exec While Compare" => refine stop ?_
  k_with "exec While" => refine stop ?_
  k_with "newTuple" => refine stop ?_
  k_with "eval Name" => (k_here; k_dflt (refine' ld (by k_asm) (by first | exact rfl | assumption) ?_; k_whole))
  trivial
def Grow (Wa W W' : List (Addr × Obj)) : Prop := (∀ p ∈ W, p ∈ W') ∧ ∀ p ∈ W', p ∈ W ∨ ∀ q ∈ Wa ++ W, q.1 < p.1
theorem Grow.refl (Wa W : List (Addr × Obj)) : Grow Wa W W := ⟨fun _ h => h, fun _ h => .inl h⟩
theorem Grow.trans {Wa A B C : List (Addr × Obj)} (h1 : Grow Wa A B) (h2 : Grow Wa B C) : Grow Wa A C := ⟨fun p hp => h2.1 p (h1.1 p hp), fun p hp => by
  rcases h2.2 p hp with q | q
  · exact h1.2 p q
  · exact .inr fun r hr => q r (by
      rcases List.mem_append.mp hr with hr | hr
      · exact List.mem_append_left _ hr
      · exact List.mem_append_right _ (h1.1 r hr))⟩
theorem Grow.off {Wa A B : List (Addr × Obj)} (h : Grow Wa A B) {x : Addr × Obj} (hx : x ∈ Wa) (ho : ∀ p ∈ A, p.1 ≠ x.1) : ∀ p ∈ B, p.1 ≠ x.1 := fun p hp => by
  rcases h.2 p hp with q | q
  · exact ho p q
  · exact Nat.ne_of_gt (q x (List.mem_append_left _ hx))
/-- what a caller of int_divmod may forget of it -/
inductive RetG (Wa W : List (Addr × Obj)) (P : Value → Prop) (r : Value) (news' : List (Addr × Obj)) : Prop
  | mk (ps30' : _) (ps37' : _) (W' : _) (w1 : news' = (30, tabObj ps30') :: (37, tabObj ps37') :: (Wa ++ W')) (w2 : T30 ps30' W') (w3 : T37 ps37' W') (w4 : Grow Wa W W') (w5 : (∀ p ∈ W', p.1 ≠ 30 ∧ p.1 ≠ 37)) (w6 : P r)
theorem retQ_G {g h : Heap} {L : Addr} {ps30 ps37 : Array Value} {Wa W news' : List (Addr × Obj)} {q r : Int} {v : Value} (N : News g L h news') (hT30 : T30 ps30 W) (hT37 : T37 ps37 W) (hW : ∀ p ∈ W, p.1 ≠ 30 ∧ p.1 ≠ 37) (hR : RetQ ps30 ps37 (Wa ++ W) q r v news') :
    ∃ ps30' ps37' W' t t1 t2, v = .ref t ∧ News g L h ((30, tabObj ps30') :: (37, tabObj ps37') :: (Wa ++ W')) ∧ T30 ps30' W' ∧ T37 ps37' W' ∧ Grow Wa W W' ∧ (∀ p ∈ W', p.1 ≠ 30 ∧ p.1 ≠ 37) ∧ (t, pairObj q r t1 t2) ∈ W' := by
  obtain ⟨t, t1, t2, c3, oc3, cvs3, ct3, c4, oc4, cvs4, ct4, rfl, rfl, hcd3, hcv3, hcd4, hcv4, ho1, ho2, ho3, ho4, ho5, ho6⟩ := hR
  have nc : ∀ (c : Addr) (oc : Obj) (cvs : Array Value) (sx : Str) (tx : Tok), oc.data = .fields cvs → cvs[1]? = some (.str sx tx) → h.get? c = some oc → c ≠ 30 ∧ c ≠ 37 := fun c oc cvs sx tx hd hv e => by
    refine ⟨fun q => ?_, fun q => ?_⟩
    · have := (N (30, tabObj #[rawInt 32, rawInt 4, .ref c3]) (by simp)).1
      rw [← q, e] at this
      cases this; cases hd; simp [rawInt] at hv
    · have := (N (37, tabObj #[rawInt 47, rawInt 4, .ref c4]) (by simp)).1
      rw [← q, e] at this
      cases this; cases hd; simp [rawInt] at hv
  have e3 := (N (c3, oc3) (by simp)).1
  have e4 := (N (c4, oc4) (by simp)).1
  have n3 := nc _ _ _ _ _ hcd3 hcv3 e3
  have n4 := nc _ _ _ _ _ hcd4 hcv4 e4
  have h3 : (c3, oc3) ∈ W ∨ ∀ q ∈ Wa ++ W, q.1 < c3 := by
    rcases ho5 with rfl | q
    · rcases hT30 with q | ⟨c', oc', _, _, q, hm, _⟩
      · simp at q
      · simp only [Array.mk.injEq, List.cons.injEq, Value.ref.injEq, and_true, true_and] at q
        subst q
        have e := (N (c3, oc') (by simp [hm])).1
        rw [e3] at e; cases e; exact .inl hm
    · exact .inr q
  have h4 : (c4, oc4) ∈ W ∨ ∀ q ∈ Wa ++ W, q.1 < c4 := by
    rcases ho6 with rfl | q
    · rcases hT37 with q | ⟨c', oc', _, _, q, hm, _⟩
      · simp at q
      · simp only [Array.mk.injEq, List.cons.injEq, Value.ref.injEq, and_true, true_and] at q
        subst q
        have e := (N (c4, oc') (by simp [hm])).1
        rw [e4] at e; cases e; exact .inl hm
    · exact .inr q
  refine ⟨_, _, (t, pairObj q r t1 t2) :: (c3, oc3) :: (c4, oc4) :: W, t, t1, t2, rfl, fun p hp => N p ?_, .inr ⟨c3, oc3, cvs3, ct3, rfl, .tail _ (.head _), hcd3, hcv3⟩, .inr ⟨c4, oc4, cvs4, ct4, rfl, .tail _ (.tail _ (.head _)), hcd4, hcv4⟩, ⟨fun p hp => .tail _ (.tail _ (.tail _ hp)), fun p hp => ?_⟩, fun p hp => ?_, .head _⟩
  · simp only [List.mem_cons, List.mem_append] at hp ⊢
    rcases hp with h | h | h | h | h | h | h <;> simp [h]
  · simp only [List.mem_cons] at hp
    rcases hp with rfl | rfl | rfl | hp
    · exact .inr ho1
    · exact h3
    · exact h4
    · exact .inl hp
  · simp only [List.mem_cons] at hp
    rcases hp with rfl | rfl | rfl | hp
    · exact ⟨Nat.ne_of_gt (Nat.lt_trans (by decide : (30 : Nat) < 37) ho2), Nat.ne_of_gt ho2⟩
    · exact n3
    · exact n4
    · exact hW p hp
theorem retQ_use {h₀ : Heap} {L : Addr} {m : Str → Option Value} {ps30 ps37 : Array Value} {Wa W : List (Addr × Obj)} {q r : Int} {G : Value → Heap → Nat → Prop} (hT30 : T30 ps30 W) (hT37 : T37 ps37 W) (hW : ∀ p ∈ W, p.1 ≠ 30 ∧ p.1 ≠ 37)
    (k : ∀ ps30' ps37' W' t t1 t2 h' tk', Fr h₀ L h' m → News h₀ L h' ((30, tabObj ps30') :: (37, tabObj ps37') :: (Wa ++ W')) → T30 ps30' W' → T37 ps37' W' → Grow Wa W W' → (∀ p ∈ W', p.1 ≠ 30 ∧ p.1 ≠ 37) → (t, pairObj q r t1 t2) ∈ W' → G (.ref t) h' tk') :
    ∀ v news' h' tk', Fr h₀ L h' m → News h₀ L h' news' → RetQ ps30 ps37 (Wa ++ W) q r v news' → G v h' tk' := by
  intro v news' h' tk' F N hR
  obtain ⟨ps30', ps37', W', t, t1, t2, rfl, N', a, b, c, d, e⟩ := retQ_G N hT30 hT37 hW hR
  exact k _ _ _ _ _ _ _ _ F N' a b c d e
theorem gcd_step {a b d : Int} (hb : 0 < b) : (d ∣ b ∧ d ∣ a.fmod b) ↔ (d ∣ a ∧ d ∣ b) := by
  have h3 := Int.mul_fdiv_add_fmod a b
  constructor
  · rintro ⟨h1, h2⟩; exact ⟨dvd_fmod h1 h2, h1⟩
  · rintro ⟨h1, h2⟩
    refine ⟨h2, ?_⟩
    have e : a.fmod b = a - b * a.fdiv b := by omega
    rw [e]; exact Int.dvd_sub h1 (Int.dvd_trans h2 (Int.dvd_mul_right _ _))
inductive MJ (Wa W0 : List (Addr × Obj)) (a b : Int) (n : Nat) (m : Str → Option Value) (news : List (Addr × Obj))  : Prop
  | mk (x : _) (y : _) (tx : _) (ty : _) (ps30 : _) (ps37 : _) (W : _) (w1 : m (Str.ofString "one") = some (.int x tx)) (w2 : m (Str.ofString "two") = some (.int y ty)) (w3 : news = (30, tabObj ps30) :: (37, tabObj ps37) :: (Wa ++ W)) (w4 : T30 ps30 W) (w5 : T37 ps37 W) (w6 : Grow Wa W0 W) (w7 : (∀ p ∈ W, p.1 ≠ 30 ∧ p.1 ≠ 37)) (w8 : 0 < x) (w9 : x < 2 ^ 20) (w10 : 0 ≤ y) (w11 : y < 2 ^ 20) (w12 : (∀ d, (d ∣ x ∧ d ∣ y) ↔ (d ∣ a ∧ d ∣ b))) (w13 : n = y.toNat)
theorem measure1 (w : World) (Wa W : List (Addr × Obj)) (ps30 ps37 : Array Value) (x y : Int) (tx ty : Tok) (hx : 0 < x) (hx2 : x < 2 ^ 20) (hy : 0 < y) (hy2 : y < 2 ^ 20) (h30 : T30 ps30 W) (h37 : T37 ps37 W) (hWa : ∀ p ∈ Wa, p.1 ≠ 30 ∧ p.1 ≠ 37) (hW : ∀ p ∈ W, p.1 ≠ 30 ∧ p.1 ≠ 37) :
    Ct w 114 [.int x tx, .int y ty] 330 ((30, tabObj ps30) :: (37, tabObj ps37) :: (Wa ++ W)) (RetG Wa W fun r => ∃ g t, r = .int g t ∧ 0 < g ∧ g < 2 ^ 20 ∧ ∀ d, d ∣ g ↔ (d ∣ x ∧ d ∣ y)) := by
  unfold Ct; k_fill
  intro p loose mean mg mb dp un gd cn cs a ccd cl outer A₀ base h₀ L m s Q E B C1 C2 C3 F X N T hk hd hu hret
  refine wpAny_call ?_
  k_dflt ktr_enter
  w_strict k_steps
  unfold Stop
  refine' whileK (MJ Wa W x y) (n₀ := y.toNat) (by k_asm) (by k_asm) ⟨x, y, _, _, ps30, ps37, W, ?q1, ?q2, rfl, h30, h37, Grow.refl Wa W, hW, hx, hx2, by omega, hy2, fun d => Iff.rfl, rfl⟩ ?turn ?hE
  case q1 => rfl
  case q2 => rfl
  case hE => passes_own
  case turn =>
    rintro nn m₁ _ h₁ tk₁ F1 N1 ⟨x1, y1, tx1, ty1, ps30', ps37', W1, e1, e2, rfl, hT30, hT37, hG, hW1, hx1, hx1', hy1, hy1', hd1', rfl⟩
    w_strict k_steps
    · unfold Stop
      have hy0 : y1 ≠ 0 := by assumption
      k_dflt (refine' idm_pos w _ ps30' ps37' x1 y1 _ _ ?p1 ?p2 ?p3 ?p4 ?p5 ?p6 ?p7 ?p8 _ _ _ _ _ _ _ _ _ _ _ _ _ _ _ _ _ _ _ _ _ _ ?k1 ?c1 ?c2 ?c3 ?k2 ?k3 N1 ?k5 ?kK ?kd ?ku ?_; (case k1 => k_asm); (case k2 => k_asm); (case k3 => k_asm); (case k5 => k_asm); (case kK => first | exact rfl | assumption))
      (case p1 => omega)
      (case p2 => omega)
      (case p3 => omega)
      (case p4 => omega)
      (case p5 => exact t30_mono hT30 fun p hp => List.mem_append_right _ hp)
      (case p6 => exact t37_mono hT37 fun p hp => List.mem_append_right _ hp)
      (case p7 => exact fun p hp => (List.mem_append.mp hp).elim (fun q => (hWa p q).1) fun q => (hW1 p q).1)
      (case p8 => exact fun p hp => (List.mem_append.mp hp).elim (fun q => (hWa p q).2) fun q => (hW1 p q).2)
      (case c1 => assumption)
      (case c2 => assumption)
      (case c3 => assumption)
      (case kd => dsimp only [ktrTop]; omega)
      (case ku => dsimp only [ktrTop]; omega)
      refine retQ_use hT30 hT37 hW1 ?_
      intro ps30'' ps37'' W2 t t1 t2 h9 tk9 F9 N9' hT30' hT37' hG2 hW2 hmt
      clear N1
      replace hmt := List.mem_append_right Wa hmt
      have hdf := div_facts (n := x1) (m := y1) (by omega) hx1
      dsimp only
      w_strict k_steps
      unfold Stop
      refine kup_newTuple (by k_asm) (by k_asm) ?_ (Nat.le_of_ble_eq_true rfl)
      intro D1 hD1 FD1 ND1 lD1
      dsimp only
      w_strict k_steps
      (with_reducible rename News _ _ _ _ => N5)
      refine' WStep.next (by k_asm) (fun p hp => N5 p (.tail _ hp)) (n' := (x1.fmod y1).toNat) (by omega) ⟨y1, x1.fmod y1, _, _, ps30'', ps37'', W2, ?q1, ?q2, rfl, hT30', hT37', hG.trans hG2, hW2, by omega, hy1', by omega, by omega, fun d => (gcd_step (by omega)).trans (hd1' d), rfl⟩
      case q1 => rfl
      case q2 => rfl
    · have hz : y1 = 0 := by assumption
      exact hret _ _ _ _ (by k_asm) (by k_asm) ⟨ps30', ps37', W1, rfl, hT30, hT37, hG, hW1, x1, tx1, rfl, hx1, hx1', fun d => by
        have := hd1' d
        rw [hz] at this
        rw [← this]
        exact ⟨fun h => ⟨h, Int.dvd_zero _⟩, fun h => h.1⟩⟩
end Mine
end SecLM
section SecLH
theorem Mine.offLH : True := by
  w_top off
  k_with_none
  trivial
open PySem PySem.W PyProof.Rows PySem.Spec PySem.Calls
set_option maxRecDepth 100000
set_option maxHeartbeats 16000000
namespace Mine
theorem rulesLH : True := by
  k_with_none
  k_with "call ref" => refine stop ?_
  k_with "call builtin:len" => (k_here; (refine' lenList (by k_asm) (by k_mem) (by assumption) (by assumption) ?_); intro t9 tk9)
  k_with "newList" => refine stop ?_
  k_with "exec For Name Call cons nil" => refine stop ?_
  k_with "exec For Name Call" => refine stop ?_
  k_with "callWith ref" => ((with_reducible show wpAny _ _ (callWith _ (Value.ref 201) _ _ _) _ _ _); refine stop ?_)
  k_with "eval Name" => (k_here; k_dflt (refine' nmL (by k_asm) (by rfl) (by rfl) (by first | exact rfl | assumption) ?_; k_whole))
  k_with "CompSrc" => refine stop ?_
  k_with "IntEnd" => refine stop ?_
  k_with "FinE" => refine stop ?_
  k_with "exec While Compare" => refine stop ?_
  k_with "exec While" => refine stop ?_
  k_with "eval ListComp" => ((with_reducible show wpAny _ _ (eval (PySem.Expr.ListComp _ [⟨PySem.Expr.Tuple _ _ _, _, _, _⟩] _ _) _) _ _ _); refine stop ?_)
  k_with "call type:zip" => refine stop ?_
  k_with "newTuple" => refine stop ?_
  k_with "FSrc" => refine stop ?_
  trivial
inductive LhJ (P : Params) (KF : Frag) (Hl ck ct Nl : Addr) (vs : List Value) (ns : List Int) (kk : Nat) (W0 : List (Addr × Obj)) (i : Nat) (m : Str → Option Value) (news : List (Addr × Obj))  : Prop
  | mk (zs : _) (c : _) (W : _) (o1 : _) (o2 : _) (x1 : _) (x2 : _) (w1 : m (Str.ofString "heap") = some (.ref Hl)) (w2 : m (Str.ofString "key") = some (.ref 201)) (w3 : m (Str.ofString "numbers") = some (.ref Nl)) (w4 : news = (Hl, listOf (refs zs).toArray c) :: (ck, o1) :: (ct, o2) :: (Nl, listOf vs.toArray kk) :: (30, tabObj #[]) :: (37, tabObj #[]) :: W) (w5 : o1.data = .cell x1) (w6 : o2.data = .cell x2) (w7 : (∀ p ∈ W, p.1 ≠ Hl ∧ p.1 ≠ ck ∧ p.1 ≠ ct ∧ p.1 ≠ Nl ∧ p.1 ≠ 30 ∧ p.1 ≠ 37)) (w8 : Sub (KF ++ hd1.heap_39 P) (W ++ hd1.heap_39 P)) (w9 : (∀ p ∈ W0, p ∈ W)) (w10 : HeapL (preZ preGt) zs) (w11 : (∀ z ∈ zs, It1 (W ++ hd1.heap_39 P) 201 ns.length z.1 z.2)) (w12 : (zs.map (·.2)).Perm ((units ns).take i))
theorem lhj_fin {P : Params} {KF : Frag} {Hl ck ct Nl L : Addr} {h₀ : Heap} {vs : List Value} {ns : List Int} {kk i : Nat} {W0 : List (Addr × Obj)} {G : (Str → Option Value) → Heap → Nat → Prop}
    (k : ∀ m h₁ tk zs c W o1 o2 x1 x2, Fr h₀ L h₁ m → News h₀ L h₁ ((Hl, listOf (refs zs).toArray c) :: (ck, o1) :: (ct, o2) :: (Nl, listOf vs.toArray kk) :: (30, tabObj #[]) :: (37, tabObj #[]) :: W) →
      m (Str.ofString "heap") = some (.ref Hl) → m (Str.ofString "key") = some (.ref 201) → m (Str.ofString "numbers") = some (.ref Nl) → o1.data = .cell x1 → o2.data = .cell x2 →
      (∀ p ∈ W, Off6 Hl ck ct Nl p.1) → Sub (KF ++ hd1.heap_39 P) (W ++ hd1.heap_39 P) → (∀ p ∈ W0, p ∈ W) → HeapL (preZ preGt) zs → (∀ z ∈ zs, It1 (W ++ hd1.heap_39 P) 201 ns.length z.1 z.2) → (zs.map (·.2)).Perm ((units ns).take i) → G m h₁ tk) :
    ∀ m₁ news₁ h₁ tk₁, Fr h₀ L h₁ m₁ → News h₀ L h₁ news₁ → LhJ P KF Hl ck ct Nl vs ns kk W0 i m₁ news₁ → G m₁ h₁ tk₁ := by
  rintro m₁ _ h₁ tk₁ F N ⟨zs, c, W, o1, o2, x1, x2, e1, e2, e3, rfl, a1, a2, a3, a4, a5, a6, a7, a8⟩
  exact k _ _ _ _ _ _ _ _ _ _ F N e1 e2 e3 a1 a2 a3 a4 a5 a6 a7 a8
theorem lhj_turn {P : Params} {KF : Frag} {Hl ck ct Nl L : Addr} {h₀ : Heap} {vs : List Value} {ns : List Int} {kk n : Nat} {W0 : List (Addr × Obj)} {G : Nat → (Str → Option Value) → Heap → Nat → Tok → Addr → Obj → (Value → Shared → Prop) → Prop}
    (k : ∀ i m h₁ tk t I oI E' zs c W o1 o2 x1 x2, i < n → Fr h₀ L h₁ m → News h₀ L h₁ ((I, oI) :: (Hl, listOf (refs zs).toArray c) :: (ck, o1) :: (ct, o2) :: (Nl, listOf vs.toArray kk) :: (30, tabObj #[]) :: (37, tabObj #[]) :: W) →
      (∀ p ∈ (Hl, listOf (refs zs).toArray c) :: (ck, o1) :: (ct, o2) :: (Nl, listOf vs.toArray kk) :: (30, tabObj #[]) :: (37, tabObj #[]) :: W, p.1 ≠ I) →
      m (Str.ofString "heap") = some (.ref Hl) → m (Str.ofString "key") = some (.ref 201) → m (Str.ofString "numbers") = some (.ref Nl) → o1.data = .cell x1 → o2.data = .cell x2 →
      (∀ p ∈ W, Off6 Hl ck ct Nl p.1) → Sub (KF ++ hd1.heap_39 P) (W ++ hd1.heap_39 P) → (∀ p ∈ W0, p ∈ W) → HeapL (preZ preGt) zs → (∀ z ∈ zs, It1 (W ++ hd1.heap_39 P) 201 ns.length z.1 z.2) → (zs.map (·.2)).Perm ((units ns).take i) → G i m h₁ tk t I oI E') :
    ∀ i m₁ news₁ h₁ tk₁ t I oI (E' : Value → Shared → Prop), i < n → Fr h₀ L h₁ m₁ → News h₀ L h₁ ((I, oI) :: news₁) → (∀ p ∈ news₁, p.1 ≠ I) → LhJ P KF Hl ck ct Nl vs ns kk W0 i m₁ news₁ → G i m₁ h₁ tk₁ t I oI E' := by
  rintro i m₁ _ h₁ tk₁ t I oI E' hi F N off ⟨zs, c, W, o1, o2, x1, x2, e1, e2, e3, rfl, a1, a2, a3, a4, a5, a6, a7, a8⟩
  exact k _ _ _ _ _ _ _ _ _ _ _ _ _ _ _ hi F N off e1 e2 e3 a1 a2 a3 a4 a5 a6 a7 a8
theorem retBack {g h : Heap} {L : Addr} {t a b n x x30 x37 : Addr × Obj} {W : List (Addr × Obj)} (N : News g L h (x30 :: x37 :: ([t, a, b, n, x] ++ W))) : News g L h (a :: b :: n :: x :: x30 :: x37 :: W) := fun p hp => N p (by
  simp only [List.mem_cons, List.cons_append, List.nil_append] at hp ⊢
  rcases hp with h | h | h | h | h | h | h <;> simp [h])
theorem wIn {g h : Heap} {L : Addr} {m : Str → Option Value} {W : List (Addr × Obj)} {K : Frag} (hW : ∀ p ∈ W, h.get? p.1 = some p.2) (X : K.In g) (F : Fr g L h m) : InW (W ++ K) h := by
  intro b o e
  induction W with
  | nil => exact F.keep b o (X b o e)
  | cons p r ih =>
    obtain ⟨a, x⟩ := p
    rw [List.cons_append, List.lookup_cons] at e
    by_cases q : (b == a) = true
    · rw [q] at e; cases e; rw [eq_of_beq q]; exact hW _ (.head _)
    · rw [Bool.not_eq_true] at q; rw [q] at e; exact ih (fun p hp => hW p (.tail _ hp)) e
theorem hold5 {Dt : Addr} {a b c d e : Addr × Obj} {r : List (Addr × Obj)} (h : ∀ p ∈ a :: b :: c :: d :: e :: r, p.1 < Dt) : e.1 ≠ Dt := Nat.ne_of_lt (h e (.tail _ (.tail _ (.tail _ (.tail _ (.head _))))))
theorem disj5 {g h : Heap} {L Hl Dt Dr x dx : Addr} {o ot orr ox od : Obj} {R W1 : List (Addr × Obj)} (_N : News g L h ((Dt, ot) :: (Dr, orr) :: (x, ox) :: (dx, od) :: R)) (h1 : Dt ≠ Hl) (h2 : Hl ≠ Dr) (h3 : x ≠ Hl) (h4 : dx ≠ Hl) (h5 : ∀ y ∈ W1, y.1 ≠ Hl) :
    ∀ p ∈ [(Hl, o)], ∀ q ∈ (Dt, ot) :: (Dr, orr) :: (x, ox) :: (dx, od) :: W1, q.1 ≠ p.1 := fun p hp q hq => by
  rw [List.mem_singleton.mp hp]
  simp only [List.mem_cons] at hq
  rcases hq with rfl | rfl | rfl | rfl | hq
  · exact h1
  · exact Ne.symm h2
  · exact h3
  · exact h4
  · exact h5 q hq
theorem newsTail {g h : Heap} {L : Addr} {a : Addr × Obj} {R : List (Addr × Obj)} (N : News g L h (a :: R)) : News g L h R := fun p hp => N p (.tail _ hp)
theorem skip7 {a b c d e f g : Addr × Obj} {W : List (Addr × Obj)} {p : Addr × Obj} (h : p ∈ a :: b :: c :: d :: e :: f :: W) : p ∈ a :: b :: c :: d :: e :: f :: g :: W := by
  simp only [List.mem_cons] at h ⊢
  rcases h with h | h | h | h | h | h | h <;> simp [h]
theorem lawHeap (w : World) (Nl : Addr) (vs : List Value) (ns : List Int) (kk : Nat) (W : List (Addr × Obj)) (hvs : IntsAre vs ns) (hnl : ns.length < 2 ^ 19) (hnl2 : ns.length < 2 ^ 20)
   (p : Program) (loose : List Str) (mean : ExcName → Option Value) (mg mb : Str → Option Value) (dp un : Nat) (gd : Option (List Code)) (cn : Str) (cs : Scope) (a : Addr) (ccd : Value) (cl : List (Str × Addr)) (outer : List Env) (A₀ : Around) (base h₀ : Heap) (L : Addr) (m : Str → Option Value) (s : Shared) (Q E : Value → Shared → Prop) (n : Nat) (Z : s.heap.objs.size = n) (hn : n = 137) (hgens : s.gens = #[]) (ZP : Heap → Prop) (HT : TopZ ZP h₀) (hW58 : ∀ p ∈ W, p.1 ≠ Nl ∧ p.1 ≠ 30 ∧ p.1 ≠ 37 ∧ p.1 ≠ 58) (hNl30 : Nl ≠ 30) (hNl37 : Nl ≠ 37) (hns : ∀ n ∈ ns, 0 < n ∧ n < 2 ^ 20) (hne : ns ≠ []) (hNl58 : Nl ≠ 58)
   (HZ : ∀ (gd : Option (List Code)) (cn : Str) (cs : Scope) (a : Addr) (ccd : Value) (cl : List (Str × Addr)) (outer : List Env) (L : Addr) (s : Shared) (Q E : Value → Shared → Prop), ZP s.heap → s.gens = #[] → s.heap.objs.size = 141 → ZH1 w s Q →
     wpAny (model PySem.Challenge.rw_nq0126_01.row.prog w) (ktrTop (dp + 1) (un + 3) gd cn cs L a ccd cl outer) (call (.ref 63) [.ref 107]) Q E s)
   : Below A₀ base outer h₀ → CodeHd base 34 30 → CodeHd base 41 37 → CodeHd base 62 58 → Fr h₀ L s.heap m → (hd1.heap_39 w.params).In h₀ → News h₀ L s.heap ((Nl, listOf vs.toArray kk) :: (30, tabObj #[]) :: (37, tabObj #[]) :: (58, tabObj #[]) :: W) → Top p loose mean mg mb h₀ → cs.kind = .function → dp + 500 < recursionLimit → un + 5000 < cLine →
    (∀ r news' h' tk', Fr h₀ L h' m → News h₀ L h' news' → HRet Nl vs ns kk W r news' → Q r { s with heap := h', toks := tk' }) →
    wpAny (model PySem.Challenge.rw_nq0126_01.row.prog w) (ktrTop dp un gd cn cs L a ccd cl outer) (call (.ref 119) [.ref Nl]) Q E s := by
  k_fill
  intro B C1 C2 C3 F X N T hk hd hu hret
  refine wpAny_call ?_
  k_dflt (refine' codeDefCZ (c := 3) ?k1 ?k2 ?k3 ?k4 ?k5 ?kA ?kF ?kK ?kZ ?k6 ?k7 ?k8 ?k9 ?kB ?kD ?kc ?_ ?c2 ?c3 ?c4; (case kA => exact rfl); (case kF => exact rfl); (case kK => assumption); (case kZ => assumption); (case k1 => k_asm); (case k2 => k_asm); (case k3 => k_asm); (case k4 => k_asm); (case k5 => k_asm); (case k6 => k_is); (case k7 => k_is); (case k8 => k_room); (case k9 => exact BindsTo.of_eq rfl); (case kB => exact rfl); (case kD => decide +kernel); (case kc => decide +kernel); (case c2 => exact rfl); (case c3 => exact rfl); (case c4 => exact rfl); intro g' L' h' tk' cells' FG' F' N' Y' B' X' T' l1 Z'; (try k_lt l1); k_cells Y'; (try simp only [List.cons_append, List.nil_append] at N'); (try dsimp only); (try k_lift B'); (try k_fold))
  refine absPost ?_
  intro PP EE hPP hEE
  w_strict k_steps
  unfold Stop
  refine newListZ (by k_asm) (by k_asm) (by assumption) ?_
  intro Hl hH FH NH lH ZH
  k_lt lH
  w_strict k_steps
  unfold Stop
  (with_reducible rename News _ _ _ _ => N7)
  (with_reducible rename Fr _ _ _ _ => F7)
  (with_reducible rename Array.size _ = _ => Z7)
  have n30 := (N7 (30, tabObj #[]) (by k_mem)).1
  have n37 := (N7 (37, tabObj #[]) (by k_mem)).1
  have n58 := N7 (58, tabObj #[]) (by k_mem)
  refine HZ _ _ _ _ _ _ _ _ _ _ _ ((HT.up FG') _ F7.keep n30 n37 n58.1) hgens (by rw [Z7, hn]) ?_
  rintro ⟨h9, g9, d9, t9, o9⟩ KF kc hKF hkeep ⟨ps58, h589⟩ eg ed eo
  dsimp only at hKF hkeep h589 eg ed eo
  subst eg ed eo
  have NR : News g' L' _ _ := fun p hp => N7 p (skip7 hp)
  obtain ⟨F9, N9⟩ := afterCmp (KF := KF) F7 NR n58.2.2 (fun p hp => by
    simp only [List.mem_cons] at hp
    rcases hp with rfl | rfl | rfl | rfl | rfl | rfl | hp
    · refine neN ?_; (try dsimp only); omega
    · refine neN ?_; (try dsimp only); omega
    · refine neN ?_; (try dsimp only); omega
    · exact hNl58
    · refine neN ?_; (try dsimp only); omega
    · refine neN ?_; (try dsimp only); omega
    · exact (hW58 p hp).2.2.2) (neN (by omega)) (by rw [Z7, hn]) hKF hkeep h589
  simp only [List.cons_append] at N9
  have hHl := ltN (Nat.lt_of_lt_of_le (Heap.lt_size (N7 _ (.head _)).1) (Nat.le_of_eq (by rw [Z7, hn] : _ = 141)))
  dsimp only at hHl
  have hKa : ∀ p ∈ KF, 141 ≤ p.1 := fun p hp => (hKF p hp).2
  have hKh : ∀ p ∈ KF, h9.get? p.1 = some p.2 := fun p hp => (hKF p hp).1
  clear N7 F7 NR Z7 hkeep n30 n37 n58
  have hKW : ∀ p ∈ KF, p ∈ W ++ ((58, tabObj ps58) :: KF) := fun p hp => List.mem_append_right _ (.tail _ hp)
  have hWW : ∀ p ∈ (58, tabObj ps58) :: W, p ∈ W ++ ((58, tabObj ps58) :: KF) := fun p hp => by
    rcases List.mem_cons.mp hp with rfl | hp
    · exact List.mem_append_right _ (.head _)
    · exact List.mem_append_left _ hp
  have hWo : ∀ p ∈ W ++ ((58, tabObj ps58) :: KF), p.1 ≠ Hl ∧ p.1 ≠ L' + 1 + 1 ∧ p.1 ≠ L' + 1 ∧ p.1 ≠ Nl ∧ p.1 ≠ 30 ∧ p.1 ≠ 37 := fun p hp => by
    rcases List.mem_append.mp hp with hp | hp
    · have h1 := hW58 p hp
      have h2 := ltN (allLt_get l1.2.2.2.2 p hp)
      refine ⟨neN ?_, neN ?_, neN ?_, h1.1, h1.2.1, h1.2.2.1⟩ <;> omega
    · rcases List.mem_cons.mp hp with rfl | hp
      · refine ⟨neN ?_, neN ?_, neN ?_, Ne.symm hNl58, neN (show (58 : Nat) ≠ 30 by decide), neN (show (58 : Nat) ≠ 37 by decide)⟩ <;> ((try dsimp only); omega)
      have h2 := ltN (a := 140) (b := p.1) (hKa p hp)
      refine ⟨neN ?_, neN ?_, neN ?_, neN ?_, neN ?_, neN ?_⟩ <;> omega
  generalize hWg : W ++ ((58, tabObj ps58) :: KF) = W9 at N9 hKW hWW hWo
  have oH : L' + 1 + 1 < Hl ∧ L' + 1 < Hl ∧ Nl < Hl ∧ 30 < Hl ∧ 37 < Hl := by refine ⟨ltN ?_, ltN ?_, ltN ?_, ltN ?_, ltN ?_⟩ <;> omega
  have oC : L' + 1 < L' + 1 + 1 ∧ Nl < L' + 1 + 1 ∧ 30 < L' + 1 + 1 ∧ 37 < L' + 1 + 1 := by refine ⟨ltN ?_, ltN ?_, ltN ?_, ltN ?_⟩ <;> omega
  have oT : Nl < L' + 1 ∧ 30 < L' + 1 ∧ 37 < L' + 1 := by refine ⟨ltN ?_, ltN ?_, ltN ?_⟩ <;> omega
  w_strict k_steps
  unfold Stop
  refine kup_newTuple (by k_asm) (by k_asm) ?_ (Nat.le_of_ble_eq_true rfl)
  intro D0 hD0 FD0 ND0 lD0
  k_lt lD0
  w_strict k_steps
  unfold Stop
  refine forK (h₀ := g') (L := L') (LhJ w.params KF Hl (L' + 1 + 1) (L' + 1) Nl vs ns kk ((58, tabObj ps58) :: W)) ?_
  have hvl : vs.length = ns.length := hvs.length
  w_strict k_steps
  unfold Stop
  (with_reducible rename News _ _ _ _ => NN0)
  have NN := newsTail NN0
  clear NN0
  refine ⟨_, _, _, _, _, ns.length, _, _, rfl, rfl, by assumption, NN, by assumption, ?small, ?size, ?J0, ?turn, ?fin⟩
  case small => exact small_one (by omega) (by omega) (by omega) (by omega)
  case size => simp only [Builtin.Range.rangeSize]; split <;> omega
  case J0 =>
    have hNN : ∀ p ∈ W9, _ := fun p hp => (NN p (.tail _ (.tail _ (.tail _ (.tail _ (.tail _ (.tail _ hp))))))).1
    (with_reducible rename Fr _ _ _ _ => FF)
    exact ⟨[], 0, W9, _, _, _, _, rfl, rfl, rfl, rfl, by assumption, by assumption, hWo, subH hKW hNN (fun b o e => FF.keep b o (X' b o e)), hWW, (fun i x y _ h1 => by simp at h1), (fun z hz => nomatch hz), .refl _⟩
  case turn =>
    refine lhj_turn ?_
    intro i m₁ h₁ tk₁ t I oI E' zs c W1 o1 o2 x1 x2 hi F1 N1 hoff e1 e2 e3 hc1 hc2 hW1 hsub hW0 hH hIt hperm
    have hI1 : L' + 1 ≠ I := hoff _ (.tail _ (.tail _ (.head _)))
    have hU : UpdF (L' + 1) o2 ((I, oI) :: (Hl, listOf (refs zs).toArray c) :: (L' + 1 + 1, o1) :: (L' + 1, o2) :: (Nl, listOf vs.toArray kk) :: (30, tabObj #[]) :: (37, tabObj #[]) :: W1) (fun o' => (I, oI) :: (Hl, listOf (refs zs).toArray c) :: (L' + 1 + 1, o1) :: (L' + 1, o') :: (Nl, listOf vs.toArray kk) :: (30, tabObj #[]) :: (37, tabObj #[]) :: W1) :=
      .tail (Ne.symm hI1) (.tail (Nat.ne_of_gt oH.2.1) (.tail (Nat.ne_of_gt oC.1) (.head (rct3 oT hW1))))
    w_strict k_steps
    refine storeX_C F1 N1 rfl hU hc2 ?_
    intro hk ok Fk Nk dk
    (try dsimp only at Nk)
    have XG : InW (W1 ++ hd1.heap_39 w.params) hk := wIn (fun p hp => (Nk p (by simp only [List.mem_cons]; simp [hp])).1) X' Fk
    have hil : i < ns.length := hi
    w_strict k_steps
    unfold Stop
    refine callWith_K (K := KF ++ hd1.heap_39 w.params) (h₀ := hk) (fun b o e => XG b o (hsub b o e)) kc.keep ?_
    w_strict k_steps
    · exact fun b o e => XG b o (hsub b o e)
    unfold Stop
    have hdis : ∀ p ∈ [(I, oI), (Hl, listOf (refs zs).toArray c), (L' + 1 + 1, o1), (L' + 1, ok), (Nl, listOf vs.toArray kk), (30, tabObj #[]), (37, tabObj #[])], ∀ q ∈ W1, q.1 ≠ p.1 := fun p hp q hq => by
      have hqq := hW1 q hq
      have hqI := hoff q (by simp only [List.mem_cons]; simp [hq])
      simp only [List.mem_cons, List.not_mem_nil, or_false] at hp
      rcases hp with rfl | rfl | rfl | rfl | rfl | rfl | rfl
      · exact hqI
      · exact hqq.1
      · exact hqq.2.1
      · exact hqq.2.2.1
      · exact hqq.2.2.2.1
      · exact hqq.2.2.2.2.1
      · exact hqq.2.2.2.2.2
    have NkR : News g' L' hk ([(I, oI), (Hl, listOf (refs zs).toArray c), (L' + 1 + 1, o1), (L' + 1, ok), (Nl, listOf vs.toArray kk), (30, tabObj #[]), (37, tabObj #[])] ++ W1) := Nk
    have NkS : News g' L' hk [(I, oI), (Hl, listOf (refs zs).toArray c), (L' + 1 + 1, o1), (L' + 1, ok), (Nl, listOf vs.toArray kk), (30, tabObj #[]), (37, tabObj #[])] := fun p hp => NkR p (List.mem_append_left _ hp)
    k_dflt (refine' keyK w (KF ++ hd1.heap_39 w.params) (W1 ++ hd1.heap_39 w.params) 201 202 157 165 181 142 107 kc hsub _ _ _ _ _ _ _ _ _ _ _ _ _ _ _ _ _ _ _ _ _ _ _ _ ?k1 ?c1 ?c2 ?c3 ?k2 ?k3 ?kI NkS ?k5 ?kK ?kd ?ku ?_; (case k1 => k_asm); (case k2 => k_asm); (case k3 => k_asm); (case k5 => k_asm); (case kK => first | exact rfl | assumption))
    (case c1 => assumption)
    (case c2 => assumption)
    (case c3 => assumption)
    (case kI => exact kiW Fk NkR X' hdis)
    (case kd => dsimp only [ktrTop]; omega)
    (case ku => dsimp only [ktrTop]; omega)
    rintro x dx hx tkx Fx Nx KPx hltx hdxx
    have hold : ∀ p ∈ [(I, oI), (Hl, listOf (refs zs).toArray c), (L' + 1 + 1, o1), (L' + 1, ok), (Nl, listOf vs.toArray kk), (30, tabObj #[]), (37, tabObj #[])] ++ W1, p.1 < dx := fun p hp => hltx _ _ (NkR p hp).1
    replace Nx := news_back NkR Nx KPx hdis
    replace Nx : News g' L' hx ((x, keyO 201 dx _) :: (dx, emptyDict) :: (I, oI) :: (Hl, listOf (refs zs).toArray c) :: (L' + 1 + 1, o1) :: (L' + 1, ok) :: (Nl, listOf vs.toArray kk) :: (30, tabObj #[]) :: (37, tabObj #[]) :: W1) := Nx
    have hoW : AllLt dx W1 := allLt_of fun p hp => hold p (List.mem_append_right _ hp)
    have ho1 := ltN (hold _ (List.mem_append_left _ (.head _)))
    have ho2 := ltN (hold _ (List.mem_append_left _ (.tail _ (.head _))))
    have ho3 := ltN (hold _ (List.mem_append_left _ (.tail _ (.tail _ (.head _)))))
    have ho4 := ltN (hold _ (List.mem_append_left _ (.tail _ (.tail _ (.tail _ (.head _))))))
    have ho5 := ltN (hold _ (List.mem_append_left _ (.tail _ (.tail _ (.tail _ (.tail _ (.head _)))))))
    have hoD := ltN hdxx
    dsimp only at ho1 ho2 ho3 ho4 ho5
    clear NkR NkS Nk Fk KPx
    dsimp only
    w_strict k_steps
    unfold Stop
    refine LCg.CompSrc.range (n := ns.length) (by rfl) (by k_asm) (by k_asm) (by assumption) ?small2 ?size2 ?sz2 ?_
    case small2 => exact small_one (by omega) (by omega) (by omega) (by omega)
    case size2 => simp only [Builtin.Range.rangeSize]; split <;> omega
    case sz2 => rw [sizeLine_eq]; omega
    intro g1
    refine comp_ind (fun j => if j = i then 1 else 0) trivial ?step ns.length 0 [] [] .nil ?fin2
    case step =>
      rintro j ys v I2 oI2 C2' oC D2 m₂ h₂ tk₂ E2 ⟨t9, rfl⟩ hC hx2 F2 N2 off ne2
      simp only [LCg.Off3, and_true] at off
      w_strict k_steps
      · unfold Stop; exact ⟨_, _, by rw [if_pos (by omega)], rfl⟩
      · unfold Stop; exact ⟨_, _, by rw [if_neg (by omega)], rfl⟩
    case fin2 =>
      intro rs hrs
      unfold LCg.FinE
      intro Dr hr tkr Frr Nrr offr
      simp only [LCg.Off1, and_true] at offr
      dsimp only
      w_strict k_steps
      unfold Stop
      refine kup_newTuple (by k_asm) (by k_asm) ?_ (Nat.le_of_ble_eq_true rfl)
      intro Dt ht Ft Nt lt
      dsimp only
      w_strict k_steps
      unfold Stop
      obtain ⟨hs4, kDt, kDr, kx, kdx⟩ := pushPrep (R := [(I, oI), (Hl, listOf (refs zs).toArray c), (L' + 1 + 1, o1), (L' + 1, ok), (Nl, listOf vs.toArray kk), (30, tabObj #[]), (37, tabObj #[])]) (W1 := W1) (K := hd1.heap_39 w.params) Nt X'
        (fun p hp => Nat.ne_of_lt (allLt_get hoW p hp)) (fun p hp => by
          rcases List.mem_cons.mp hp with rfl | hp
          · exact Nat.ne_of_lt hdxx
          · exact Nat.ne_of_lt (Nat.lt_trans (allLt_get hoW p hp) hdxx)) (fun p hp => by
          rcases List.mem_cons.mp hp with rfl | hp
          · exact offr.1
          · rcases List.mem_cons.mp hp with rfl | hp
            · exact offr.2.1
            · exact off1_mem offr.2.2.2.2.2.2.2.2.2 p hp) (fun p hp => Nat.ne_of_lt (lt p (by
          simp only [List.mem_cons] at hp ⊢
          rcases hp with h | h | h | h <;> simp [h])))
      have hrs' : IntsAre rs (unitRow ns.length i) := by
        have e : ([] : List Int) ++ (List.range' 0 ns.length).map (fun j => if j = i then 1 else 0) = unitRow ns.length i := by simp [unitRow, List.range_eq_range']
        rw [← e]; exact hrs
      have hnew := It1.intro (len := ns.length) kDt kx kdx kDr hrs' (by simp [unitRow])
      have hIt2 : ∀ z ∈ zs, It1 _ 201 ns.length z.1 z.2 := fun z hz => (hIt z hz).mono hs4
      have hzl : zs.length < 2 ^ 19 := by
        have := hperm.length_eq
        simp only [List.length_map, List.length_take] at this
        omega
      have NtR : News g' L' ht ([(Hl, listOf (refs zs).toArray c)] ++ _) := fun p hp => Nt p (pick5 (R := [(L' + 1 + 1, o1), (L' + 1, ok), (Nl, listOf vs.toArray kk), (30, tabObj #[]), (37, tabObj #[])]) (W := W1) (e := (I, oI)) hp)
      have htr : ∀ a b c, preGt a b → preGt b c → preGt a c := fun a b c h1 h2 => by unfold preGt at *; omega
      have HC := cmp1 w (KF ++ hd1.heap_39 w.params) _ 201 202 157 165 181 142 kc (Sub.trans' hsub hs4) (fun W => W = []) ns.length
      have hdis2 := fun p (hp : p ∈ [(Hl, listOf (refs zs).toArray c)]) q hq => disj5 (o := listOf (refs zs).toArray c) Nt (Ne.symm (hold5 lt)) offr.2.2.2.1 (Nat.ne_of_gt (Nat.lt_trans ho2 hoD)) (Nat.ne_of_gt ho2) (fun y hy => (hW1 y hy).1) p hp q hq
      have NtS : News g' L' ht [(Hl, listOf (refs zs).toArray c)] := fun p hp => NtR p (List.mem_append_left _ hp)
      k_dflt (refine' heappush w _ (fun W => W = []) _ preGt 20 htr HC Hl c zs [] (Dt, (ns.getD i 0, unitRow ns.length i)) hH hIt2 hnew hzl rfl (fun _ h => nomatch h) _ _ _ _ _ _ _ _ _ _ _ _ _ _ _ _ _ _ _ _ _ _ ?k1 ?c1 ?c2 ?c3 ?k2 ?k3 ?kI NtS ?k5 ?kK ?kd ?ku ?_; (case k1 => k_asm); (case k2 => k_asm); (case k3 => k_asm); (case k5 => k_asm); (case kK => first | exact rfl | assumption))
      (case c1 => assumption)
      (case c2 => assumption)
      (case c3 => assumption)
      (case kI => exact kiW Ft NtR X' hdis2)
      (case kd => dsimp only [ktrTop]; omega)
      (case ku => dsimp only [ktrTop]; omega)
      refine pushUse ?_
      intro zs2 hp1 tkp Fp Np KPp hpm hH2
      have keepR : ∀ p : Addr × Obj, ht.get? p.1 = some p.2 → p.1 ≠ L' → g'.get? p.1 = none → p.1 ≠ Hl → hp1.get? p.1 = some p.2 ∧ p.1 ≠ L' ∧ g'.get? p.1 = none := fun p e1 e2 e3 e4 => ⟨KPp p.1 p.2 e1 (fun q hq => by rw [List.mem_singleton.mp hq]; exact Ne.symm e4), e2, e3⟩
      have Nall := fun p hp => keepR p (Nt p hp).1 (Nt p hp).2.1 (Nt p hp).2.2
      dsimp only
      w_strict k_steps
      refine ⟨.inl rfl, hp1, _, m₁, _, rfl, Fp, ?N9, ?off9, zs2, c + 1, _, o1, ok, x1, _, e1, e2, e3, rfl, hc1, dk, ?hW9, Sub.trans' hsub hs4, fun p hp => .tail _ (.tail _ (.tail _ (.tail _ (hW0 p hp)))), hH2, ?It9, ?perm9⟩
      case N9 =>
        intro p hp
        simp only [List.mem_cons] at hp
        have hne := hdis2 _ (.head _)
        rcases hp with rfl | rfl | rfl | rfl | rfl | rfl | rfl | hp
        · exact Nall _ (by simp) (Ne.symm (hoff _ (.head _)))
        · exact Np _ (.head _)
        · exact Nall _ (by simp) (Nat.ne_of_lt oH.1)
        · exact Nall _ (by simp) (Nat.ne_of_lt oH.2.1)
        · exact Nall _ (by simp) (Nat.ne_of_lt oH.2.2.1)
        · exact Nall _ (by simp) (Nat.ne_of_lt oH.2.2.2.1)
        · exact Nall _ (by simp) (Nat.ne_of_lt oH.2.2.2.2)
        · exact Nall p (by simp only [List.mem_cons]; rcases hp with h | h | h | h | h <;> simp [h]) (hne p (by simp only [List.mem_cons]; exact hp))
      case off9 =>
        intro p hp
        simp only [List.mem_cons] at hp
        have hofD : I ≠ Dt := Nat.ne_of_lt (lt _ (.tail _ (.tail _ (.tail _ (.head _)))))
        rcases hp with rfl | rfl | rfl | rfl | rfl | rfl | rfl | rfl | rfl | rfl | hp
        · exact hoff (Hl, listOf (refs zs).toArray c) (.head _)
        · exact hoff _ (.tail _ (.head _))
        · exact hoff (L' + 1, o2) (.tail _ (.tail _ (.head _)))
        · exact hoff _ (.tail _ (.tail _ (.tail _ (.head _))))
        · exact hoff _ (.tail _ (.tail _ (.tail _ (.tail _ (.head _)))))
        · exact hoff _ (.tail _ (.tail _ (.tail _ (.tail _ (.tail _ (.head _))))))
        · exact Ne.symm hofD
        · exact Ne.symm offr.2.2.1
        · exact Nat.ne_of_gt (Nat.lt_trans ho1 hoD)
        · exact Nat.ne_of_gt ho1
        · exact hoff _ (.tail _ (.tail _ (.tail _ (.tail _ (.tail _ (.tail _ hp))))))
      case hW9 =>
        intro p hp
        simp only [List.mem_cons] at hp
        rcases hp with rfl | rfl | rfl | rfl | hp
        · exact ⟨Ne.symm (Nat.ne_of_lt (lt _ (.tail _ (.tail _ (.tail _ (.tail _ (.head _))))))), Ne.symm (Nat.ne_of_lt (lt _ (.tail _ (.tail _ (.tail _ (.tail _ (.tail _ (.head _)))))))), Ne.symm (Nat.ne_of_lt (lt _ (.tail _ (.tail _ (.tail _ (.tail _ (.tail _ (.tail _ (.head _))))))))),
            Ne.symm (Nat.ne_of_lt (lt _ (.tail _ (.tail _ (.tail _ (.tail _ (.tail _ (.tail _ (.tail _ (.head _)))))))))), Ne.symm (Nat.ne_of_lt (lt _ (.tail _ (.tail _ (.tail _ (.tail _ (.tail _ (.tail _ (.tail _ (.tail _ (.head _))))))))))), Ne.symm (Nat.ne_of_lt (lt _ (.tail _ (.tail _ (.tail _ (.tail _ (.tail _ (.tail _ (.tail _ (.tail _ (.tail _ (.head _))))))))))))⟩
        · obtain ⟨_, _, _, q1, q2, q3, q4, q5, q6, _⟩ := offr
          exact ⟨Ne.symm q1, Ne.symm q2, Ne.symm q3, Ne.symm q4, Ne.symm q5, Ne.symm q6⟩
        · exact off6_of (Nat.lt_trans ho2 hoD) (Nat.lt_trans ho3 hoD) (Nat.lt_trans ho4 hoD) (Nat.lt_trans ho5 hoD) oC.2.2.2
        · exact off6_of ho2 ho3 ho4 ho5 oC.2.2.2
        · exact hW1 p hp
      case It9 =>
        intro z hz
        have hz' := hpm.mem_iff.mp hz
        rcases List.mem_append.mp hz' with hz' | hz'
        · exact hIt2 z hz'
        · rw [List.mem_singleton.mp hz']; exact hnew
      case perm9 =>
        have h1 := (hpm.map (·.2))
        rw [List.map_append] at h1
        refine h1.trans ((hperm.append_right _).trans ?_)
        rw [units_take hi]
        exact .refl _
  case fin =>
    refine lhj_fin ?_
    intro m₁ h₁ tk₁ zs c W1 o1 o2 x1 x2 F1 N1 e1 e2 e3 hc1 hc2 hW1 hsub hW0 hH hIt hperm
    w_strict k_steps
    unfold Stop
    have htake : (units ns).take ns.length = units ns := List.take_of_length_le (by simp [units])
    rw [htake] at hperm
    have hG0 : Good ns (zs.map (·.2)) := (good_units hne hns).perm hperm
    refine' whileK (WJ w.params KF Hl (L' + 1 + 1) (L' + 1) Nl vs ns kk ((58, tabObj ps58) :: W)) (n₀ := msum (zs.map (·.2))) (by k_asm) (by k_asm) ⟨zs, c, W1, o1, o2, x1, x2, #[], #[], ?q1, ?q2, ?q3, ?q4, rfl, hc1, hc2, hW1, hsub, hW0, hH, hIt, .inl rfl, .inl rfl, hG0, rfl⟩ ?turnW ?hE
    case q1 => exact e1
    case q2 => exact e2
    case q3 => exact e3
    case q4 => rfl
    case hE => subst hEE; passes_own
    case turnW =>
      refine wj_use ?_
      intro m₁ h₁ tk₁ zs c W1 o1 o2 x1 x2 ps30 ps37 F1 N1 e1 e2 e3 e4 hc1 hc2 hW1 hsub hW0 hH hIt hT30 hT37 hG
      have hrl : (refs zs).length = zs.length := by simp [refs]
      have hzn : zs.length ≤ ns.length := by have := hG.len; simpa using this
      have hzl : zs.length < 2 ^ 20 := by omega
      by_cases hlen : 1 < zs.length
      · w_strict k_steps
        unfold Stop
        have hRH := rh5 (o1 := o1) (o2 := o2) (n := listOf vs.toArray kk) (a := tabObj ps30) (b := tabObj ps37) oH hW1
        have htr : ∀ a b c, preGt a b → preGt b c → preGt a c := fun a b c h1 h2 => by unfold preGt at *; omega
        have HC := cmp1 w (KF ++ hd1.heap_39 w.params) _ 201 202 157 165 181 142 kc hsub (fun W => W = []) ns.length
        have N1W : News g' L' h₁ ([(Hl, listOf (refs zs).toArray c)] ++ W1) := fun p hp => N1 p (by
          rcases List.mem_append.mp hp with hp | hp
          · rw [List.mem_singleton.mp hp]; exact .head _
          · exact .tail _ (.tail _ (.tail _ (.tail _ (.tail _ (.tail _ hp))))))
        have N1S : News g' L' h₁ [(Hl, listOf (refs zs).toArray c)] := fun p hp => N1W p (List.mem_append_left _ hp)
        have hzne : zs ≠ [] := fun e => by rw [e] at hlen; simp at hlen
        k_dflt (refine' heappop w _ (fun W => W = []) _ preGt 20 htr HC Hl c zs [] hH hIt hzne (by omega) rfl (fun _ h => nomatch h) _ _ _ _ _ _ _ _ _ _ _ _ _ _ _ _ _ _ _ _ _ _ ?k1 ?c1 ?c2 ?c3 ?k2 ?k3 ?kI N1S ?k5 ?kK ?kd ?ku ?_; (case k1 => k_asm); (case k2 => k_asm); (case k3 => k_asm); (case k5 => k_asm); (case kK => first | exact rfl | assumption))
        (case c1 => assumption)
        (case c2 => assumption)
        (case c3 => assumption)
        (case kI => exact kiW F1 N1W X' fun p hp q hq => by rw [List.mem_singleton.mp hp]; exact (hW1 q hq).1)
        (case kd => dsimp only [ktrTop]; omega)
        (case ku => dsimp only [ktrTop]; omega)
        refine popUse ?_
        rintro xv ⟨xn, xr⟩ zs2 c2 hp1 tkp Fp Np KPp hx0 hpm hH2
        replace Np := newsSet N1 Np KPp hRH
        clear N1W N1S KPp N1
        have hxm := hIt _ (hpm.mem_iff.mp (.head _))
        refine it1_use hxm ?_
        intro kx rx txx cx vsx hmx hmrx hix hlx
        have hl2 : zs2.length + 1 = zs.length := by have := hpm.length_eq; simpa using this
        obtain ⟨⟨yv, yn, yr⟩, zs3, rfl⟩ : ∃ y zs3, zs2 = y :: zs3 := by cases zs2 with | nil => simp at hl2; omega | cons y r => exact ⟨y, r, rfl⟩
        have hym := hIt _ (hpm.mem_iff.mp (.tail _ (.head _)))
        refine it1_use hym ?_
        intro ky ry txy cy vsy hmy hmry hiy hly
        have hy0 : (refs ((yv, yn, yr) :: zs3))[(0 : Int).toNat]? = some (.ref yv) := rfl
        have hle : yn ≤ xn := HeapL.root (pre := preZ preGt) (fun a => Int.le_refl _) (fun a b c h1 h2 => htr a.2 b.2 c.2 h1 h2) hH hx0 _ _ (List.getElem?_of_mem (hpm.mem_iff.mp (.tail _ (.head _)))).choose_spec
        have hGp : Good ns (((xv, xn, xr) :: (yv, yn, yr) :: zs3).map (·.2)) := hG.perm (hpm.map _)
        have hgx := hGp.it (xn, xr) (.head _)
        have hgy := hGp.it (yn, yr) (.tail _ (.head _))
        dsimp only at hgx hgy
        dsimp only
        w_strict k_steps
        unfold Stop
        refine kup_newTuple (by k_asm) (by k_asm) ?_ (Nat.le_of_ble_eq_true rfl)
        intro D1 hD1 FD1 ND1 lD1
        dsimp only
        w_strict k_steps
        unfold Stop
        (with_reducible rename News _ _ _ _ => N3)
        k_dflt (refine' idm_pos w _ ps30 ps37 xn yn _ _ ?p1 ?p2 ?p3 ?p4 ?p5 ?p6 ?p7 ?p8 _ _ _ _ _ _ _ _ _ _ _ _ _ _ _ _ _ _ _ _ _ _ ?k1 ?c1 ?c2 ?c3 ?k2 ?k3 (idmPrep N3) ?k5 ?kK ?kd ?ku ?_; (case k1 => k_asm); (case k2 => k_asm); (case k3 => k_asm); (case k5 => k_asm); (case kK => first | exact rfl | assumption))
        (case p1 => omega)
        (case p2 => omega)
        (case p3 => omega)
        (case p4 => omega)
        (case p5 => exact t30_mono hT30 fun p hp => .tail _ (.tail _ (.tail _ (.tail _ (.tail _ hp)))))
        (case p6 => exact t37_mono hT37 fun p hp => .tail _ (.tail _ (.tail _ (.tail _ (.tail _ hp)))))
        (case p7 => exact rD ⟨Nat.ne_of_gt (lD1 (30, tabObj ps30) (by simp)), Nat.ne_of_gt oH.2.2.2.1, Nat.ne_of_gt oC.2.2.1, Nat.ne_of_gt oT.2.1, hNl30⟩ fun p hp => (hW1 p hp).2.2.2.2.1)
        (case p8 => exact rD ⟨Nat.ne_of_gt (lD1 (37, tabObj ps37) (by simp)), Nat.ne_of_gt oH.2.2.2.2, Nat.ne_of_gt oC.2.2.2, Nat.ne_of_gt oT.2.2, hNl37⟩ fun p hp => (hW1 p hp).2.2.2.2.2)
        (case c1 => assumption)
        (case c2 => assumption)
        (case c3 => assumption)
        (case kd => dsimp only [ktrTop]; omega)
        (case ku => dsimp only [ktrTop]; omega)
        have h37c : (37 : Addr) < L' + 1 + 1 := Nat.lt_of_lt_of_le l1.2.2.1 (Nat.le_of_lt (Nat.lt_succ_of_lt (Nat.lt_succ_self _)))
        refine retQ_use (Wa := [(D1, tupO #[.int yn txy, .ref ry]), (Hl, listOf (refs ((yv, yn, yr) :: zs3)).toArray c2), (L' + 1 + 1, o1), (L' + 1, o2), (Nl, listOf vs.toArray kk)]) (W := W1) hT30 hT37 (fun p hp => (hW1 p hp).2.2.2.2) ?_
        intro qs30 qs37 W2 t t1 t2 h9 tk9 F9 N9 hT30' hT37' hGw hW2t hmt
        have hW2o : ∀ p ∈ W2, Off6 Hl (L' + 1 + 1) (L' + 1) Nl p.1 := fun p hp => (hGw.2 p hp).elim (fun q => hW1 p q) (off6_new h37c)
        have N4 : News g' L' h9 ((Hl, listOf (refs ((yv, yn, yr) :: zs3)).toArray c2) :: (L' + 1 + 1, o1) :: (L' + 1, o2) :: (Nl, listOf vs.toArray kk) :: (30, tabObj qs30) :: (37, tabObj qs37) :: W2) := retBack N9
        have hX4 : ∀ b o, (hd1.heap_39 w.params).lookup b = some o → h9.get? b = some o := fun b o e => F9.keep b o (X' b o e)
        have N4h := fun p (hp : p ∈ W2) => (N4 p (.tail _ (.tail _ (.tail _ (.tail _ (.tail _ (.tail _ hp))))))).1
        have hs12 := hGw.1
        have hsub2 := subH hs12 N4h hX4
        replace hmx := hs12 _ hmx
        replace hmrx := hs12 _ hmrx
        replace hmy := hs12 _ hmy
        replace hmry := hs12 _ hmry
        clear N9 N3
        dsimp only
        w_strict k_steps
        (with_reducible rename News _ _ _ _ => N5)
        (with_reducible rename Fr _ _ _ _ => F5)
        have hU2 : UpdF (L' + 1 + 1) o1 ((Hl, listOf (refs ((yv, yn, yr) :: zs3)).toArray c2) :: (L' + 1 + 1, o1) :: (L' + 1, o2) :: (Nl, listOf vs.toArray kk) :: (30, tabObj qs30) :: (37, tabObj qs37) :: W2)
            (fun o' => (Hl, listOf (refs ((yv, yn, yr) :: zs3)).toArray c2) :: (L' + 1 + 1, o') :: (L' + 1, o2) :: (Nl, listOf vs.toArray kk) :: (30, tabObj qs30) :: (37, tabObj qs37) :: W2) :=
          .tail (Nat.ne_of_gt oH.1) (.head (rck4 oC hW2o))
        have hdf := div_facts hgy.1 hgx.1
        have hdl := div_le hgy.1 hgx.1
        refine storeX_C F5 N5 rfl hU2 hc1 ?_
        intro hk ok Fk Nk dk
        (try dsimp only at Nk)
        w_strict k_steps
        · -- the rest is not nought
          unfold Stop
          (with_reducible rename News _ _ _ _ => N6)
          (with_reducible rename Fr _ _ _ _ => F6)
          have hr0 : xn.fmod yn ≠ 0 := by assumption
          have XG : InW (W2 ++ hd1.heap_39 w.params) _ := wIn (fun p hp => (N6 p (.tail _ (.tail _ (.tail _ (.tail _ (.tail _ (.tail _ hp))))))).1) X' F6
          have hsubK := Sub.trans' hsub hsub2
          refine callWith_K (K := KF ++ hd1.heap_39 w.params) (h₀ := _) (fun b o e => XG b o (hsubK b o e)) kc.keep ?_
          w_strict k_steps
          · exact fun b o e => XG b o (hsubK b o e)
          unfold Stop
          have N6R : News g' L' _ ([(Hl, listOf (refs ((yv, yn, yr) :: zs3)).toArray c2), (L' + 1 + 1, ok), (L' + 1, o2), (Nl, listOf vs.toArray kk), (30, tabObj qs30), (37, tabObj qs37)] ++ W2) := N6
          have hdis : ∀ p ∈ [(Hl, listOf (refs ((yv, yn, yr) :: zs3)).toArray c2), (L' + 1 + 1, ok), (L' + 1, o2), (Nl, listOf vs.toArray kk), (30, tabObj qs30), (37, tabObj qs37)], ∀ q ∈ W2, q.1 ≠ p.1 := fun p hp q hq => by
            have hqq := hW2o q hq
            simp only [List.mem_cons, List.not_mem_nil, or_false] at hp
            rcases hp with rfl | rfl | rfl | rfl | rfl | rfl
            · exact hqq.1
            · exact hqq.2.1
            · exact hqq.2.2.1
            · exact hqq.2.2.2.1
            · exact hqq.2.2.2.2.1
            · exact hqq.2.2.2.2.2
          have N6S : News g' L' _ [(Hl, listOf (refs ((yv, yn, yr) :: zs3)).toArray c2), (L' + 1 + 1, ok), (L' + 1, o2), (Nl, listOf vs.toArray kk), (30, tabObj qs30), (37, tabObj qs37)] := fun p hp => N6R p (List.mem_append_left _ hp)
          k_dflt (refine' keyK w (KF ++ hd1.heap_39 w.params) (W2 ++ hd1.heap_39 w.params) 201 202 157 165 181 142 107 kc hsubK _ _ _ _ _ _ _ _ _ _ _ _ _ _ _ _ _ _ _ _ _ _ _ _ ?k1 ?c1 ?c2 ?c3 ?k2 ?k3 ?kI N6S ?k5 ?kK ?kd ?ku ?_; (case k1 => k_asm); (case k2 => k_asm); (case k3 => k_asm); (case k5 => k_asm); (case kK => first | exact rfl | assumption))
          (case c1 => assumption)
          (case c2 => assumption)
          (case c3 => assumption)
          (case kI => exact kiW F6 N6R X' hdis)
          (case kd => dsimp only [ktrTop]; omega)
          (case ku => dsimp only [ktrTop]; omega)
          rintro x dx hx tkx Fx Nx KPx hltx hdxx
          replace Nx := keyBack (news_back N6R Nx KPx hdis)
          have hW3o : ∀ p ∈ (x, keyO 201 dx (.int (xn.fmod yn) t2)) :: (dx, emptyDict) :: W2, Off6 Hl (L' + 1 + 1) (L' + 1) Nl p.1 := fun p hp => by
            simp only [List.mem_cons] at hp
            rcases hp with rfl | rfl | hp
            · exact off6_up h37c N6 hltx hdxx
            · exact off6_old h37c N6 hltx
            · exact hW2o p hp
          have Nxh := fun p (hp : p ∈ (x, keyO 201 dx (.int (xn.fmod yn) t2)) :: (dx, emptyDict) :: W2) => (Nx p (.tail _ (.tail _ (.tail _ (.tail _ (.tail _ (.tail _ hp))))))).1
          have hs23 : ∀ p ∈ W2, p ∈ (x, keyO 201 dx (.int (xn.fmod yn) t2)) :: (dx, emptyDict) :: W2 := fun p hp => .tail _ (.tail _ hp)
          have hsub3 := subH hs23 Nxh (fun b o e => Fx.keep b o (X' b o e))
          have hmk : (x, keyO 201 dx (.int (xn.fmod yn) t2)) ∈ (x, keyO 201 dx (.int (xn.fmod yn) t2)) :: (dx, emptyDict) :: W2 := .head _
          have hmd : (dx, emptyDict) ∈ (x, keyO 201 dx (.int (xn.fmod yn) t2)) :: (dx, emptyDict) :: W2 := .tail _ (.head _)
          generalize (x, keyO 201 dx (.int (xn.fmod yn) t2)) :: (dx, emptyDict) :: W2 = W3 at Nx hW3o Nxh hs23 hsub3 hmk hmd
          have hmrx3 := hs23 _ hmrx
          have hmry3 := hs23 _ hmry
          clear N6 N6R N6S F6 KPx XG
          dsimp only
          w_strict k_steps
          unfold Stop
          k_dflt (refine zip_comp (by k_asm) (by rfl) (by decide) (by rfl) (by decide) (by rfl) (by rfl) (by decide) ?z8)
          case z8 =>
            w_strict k_steps
            unfold Stop
            (with_reducible rename News _ _ _ _ => N8)
            (with_reducible rename Fr _ _ _ _ => F8)
            refine zsrc_call (xs := vsx) (ys := vsy) (ns := xr) (ms := yr) (f := fun a b => a - xn.fdiv yn * b) (by rfl) ⟨_, (N8 _ (.tail _ (.tail _ (.tail _ (.tail _ (.tail _ (.tail _ hmrx3))))))).1, rfl, _, rfl⟩ ⟨_, (N8 _ (.tail _ (.tail _ (.tail _ (.tail _ (.tail _ (.tail _ hmry3))))))).1, rfl, _, rfl⟩ hix hiy (by omega) (by rw [sizeLine_eq]; omega) F8 N8 ?zstep ?zfin
            case zstep =>
              intro gz a9 b9 ta9 tb9 C9 oC9 m9 h9' tk9' E9 hmem9 hC9 ha9 hb9 Fz Nz offz
              dsimp only
              w_strict k_steps
              unfold Stop
              exact ⟨_, _, rfl, rfl⟩
            case zfin =>
              intro gz Dr rs hr tkr hrs Frr Nrr offr hDr hkr
              dsimp only
              w_strict k_steps
              unfold Stop
              refine kup_newTuple (by k_asm) (by k_asm) ?_ (Nat.le_of_ble_eq_true rfl)
              intro Dt ht Ft Nt lt
              dsimp only
              w_strict k_steps
              unfold Stop
              have N9 := twoBack Nt
              have hW4o : ∀ p ∈ (Dt, tupO #[.ref x, .int (xn.fmod yn) t2, .ref Dr]) :: (Dr, LCg.lst rs) :: W3, Off6 Hl (L' + 1 + 1) (L' + 1) Nl p.1 := fun p hp => by
                simp only [List.mem_cons] at hp
                rcases hp with rfl | rfl | hp
                · exact off6_of (lt _ (.tail _ (.head _))) (lt _ (.tail _ (.tail _ (.head _)))) (lt _ (.tail _ (.tail _ (.tail _ (.head _))))) (lt _ (.tail _ (.tail _ (.tail _ (.tail _ (.head _)))))) h37c
                · exact off6_old h37c N8 hDr
                · exact hW3o p hp
              have N9h := fun p (hp : p ∈ (Dt, tupO #[.ref x, .int (xn.fmod yn) t2, .ref Dr]) :: (Dr, LCg.lst rs) :: W3) => (N9 p (.tail _ (.tail _ (.tail _ (.tail _ (.tail _ (.tail _ hp))))))).1
              have hs34 : ∀ p ∈ W3, p ∈ (Dt, tupO #[.ref x, .int (xn.fmod yn) t2, .ref Dr]) :: (Dr, LCg.lst rs) :: W3 := fun p hp => .tail _ (.tail _ hp)
              have hX9 : ∀ b o, (hd1.heap_39 w.params).lookup b = some o → ht.get? b = some o := fun b o e => Ft.keep b o (X' b o e)
              have hsub4 := subH hs34 N9h hX9
              have hmDt : (Dt, tupO #[.ref x, .int (xn.fmod yn) t2, .ref Dr]) ∈ (Dt, tupO #[.ref x, .int (xn.fmod yn) t2, .ref Dr]) :: (Dr, LCg.lst rs) :: W3 := .head _
              have hmDr : (Dr, LCg.lst rs) ∈ (Dt, tupO #[.ref x, .int (xn.fmod yn) t2, .ref Dr]) :: (Dr, LCg.lst rs) :: W3 := .tail _ (.head _)
              replace N9 : News g' L' ht ((Hl, listOf (refs ((yv, yn, yr) :: zs3)).toArray c2) :: (L' + 1 + 1, ok) :: (L' + 1, o2) :: (Nl, listOf vs.toArray kk) :: (30, tabObj qs30) :: (37, tabObj qs37) :: (Dt, tupO #[.ref x, .int (xn.fmod yn) t2, .ref Dr]) :: (Dr, LCg.lst rs) :: W3) := N9
              generalize (Dt, tupO #[.ref x, .int (xn.fmod yn) t2, .ref Dr]) :: (Dr, LCg.lst rs) :: W3 = W4 at N9 hW4o N9h hs34 hsub4 hmDt hmDr
              have hrl4 : (List.zipWith (fun a b => a - xn.fdiv yn * b) xr yr).length = ns.length := by rw [List.length_zipWith]; omega
              have hnew := It1.intro (len := ns.length) (lk_of_mem hmDt N9h hX9) (lk_of_mem (hs34 _ hmk) N9h hX9) (lk_of_mem (hs34 _ hmd) N9h hX9) (lk_of_mem hmDr N9h hX9) hrs hrl4
              have hsubT := Sub.trans' hsubK (Sub.trans' hsub3 hsub4)
              have HC4 := cmp1 w (KF ++ hd1.heap_39 w.params) _ 201 202 157 165 181 142 kc hsubT (fun W => W = []) ns.length
              have hIt4 : ∀ z ∈ (yv, yn, yr) :: zs3, It1 (W4 ++ hd1.heap_39 w.params) 201 ns.length z.1 z.2 := fun z hz => (hIt z (hpm.mem_iff.mp (.tail _ hz))).mono (Sub.trans' hsub2 (Sub.trans' hsub3 hsub4))
              have hRH4 := rh5 (o1 := ok) (o2 := o2) (n := listOf vs.toArray kk) (a := tabObj qs30) (b := tabObj qs37) oH hW4o
              have N9W : News g' L' ht ([(Hl, listOf (refs ((yv, yn, yr) :: zs3)).toArray c2)] ++ W4) := fun p hp => N9 p (by
                rcases List.mem_append.mp hp with hp | hp
                · rw [List.mem_singleton.mp hp]; exact .head _
                · exact .tail _ (.tail _ (.tail _ (.tail _ (.tail _ (.tail _ hp))))))
              have N9S : News g' L' ht [(Hl, listOf (refs ((yv, yn, yr) :: zs3)).toArray c2)] := fun p hp => N9W p (List.mem_append_left _ hp)
              k_dflt (refine' heappush w _ (fun W => W = []) _ preGt 20 htr HC4 Hl c2 ((yv, yn, yr) :: zs3) [] (Dt, (xn.fmod yn, List.zipWith (fun a b => a - xn.fdiv yn * b) xr yr)) hH2 hIt4 hnew (by omega) rfl (fun _ h => nomatch h) _ _ _ _ _ _ _ _ _ _ _ _ _ _ _ _ _ _ _ _ _ _ ?k1 ?c1 ?c2 ?c3 ?k2 ?k3 ?kI N9S ?k5 ?kK ?kd ?ku ?_; (case k1 => k_asm); (case k2 => k_asm); (case k3 => k_asm); (case k5 => k_asm); (case kK => first | exact rfl | assumption))
              (case c1 => assumption)
              (case c2 => assumption)
              (case c3 => assumption)
              (case kI => exact kiW Ft N9W X' fun p hp q hq => by rw [List.mem_singleton.mp hp]; exact (hW4o q hq).1)
              (case kd => dsimp only [ktrTop]; omega)
              (case ku => dsimp only [ktrTop]; omega)
              refine pushUse ?_
              intro zs5 hp5 tkp5 Fp5 Np5 KPp5 hpm5 hH5
              replace Np5 := newsSet N9 Np5 KPp5 hRH4
              clear N9W N9S KPp5 N9 Nt
              have gr := Good.rest (y := (yn, yr)) hGp (.head _) hle hr0
              have hms : msum (((xv, xn, xr) :: (yv, yn, yr) :: zs3).map (·.2)) = msum (zs.map (·.2)) := msum_perm (hpm.map _)
              have hp6 : (zs5.map (·.2)).Perm (((yv, yn, yr) :: zs3).map (·.2) ++ [(xn.fmod yn, List.zipWith (fun a b => a - xn.fdiv yn * b) xr yr)]) := (hpm5.map (·.2)).trans (by rw [List.map_append]; exact .refl _)
              dsimp only
              w_strict k_steps
              refine' WStep.next (by k_asm) (by k_asm) (n' := msum (zs5.map (·.2))) ?vlt ⟨zs5, c2 + 1, W4, ok, o2, _, x2, _, _, ?v1, ?v2, ?v3, ?v4, rfl, dk, hc2, hW4o, hsubT, fun p hp => hs34 _ (hs23 _ (hs12 _ (hW0 p hp))), hH5, ?vIt, t30_mono hT30' (fun p hp => hs34 _ (hs23 _ hp)), t37_mono hT37' (fun p hp => hs34 _ (hs23 _ hp)), gr.1.perm hp6, rfl⟩
              case vlt => rw [← hms, msum_perm hp6]; exact gr.2
              case v1 => exact e1
              case v2 => exact e2
              case v3 => exact e3
              case v4 => show some (Value.bool (xn.fdiv yn * yn + xn.fmod yn == xn)) = _; rw [hdf.2.2.1]; simp
              case vIt =>
                intro z hz
                rcases List.mem_append.mp (hpm5.mem_iff.mp hz) with q | q
                · exact hIt4 z q
                · rw [List.mem_singleton.mp q]; exact hnew
        · -- the rest is nought
          have gz := Good.zero (y := (yn, yr)) hGp (.head _) (by assumption)
          have hms : msum (((xv, xn, xr) :: (yv, yn, yr) :: zs3).map (·.2)) = msum (zs.map (·.2)) := msum_perm (hpm.map _)
          refine' WStep.next (by k_asm) (by k_asm) (n' := msum (((yv, yn, yr) :: zs3).map (·.2))) ?wlt ⟨(yv, yn, yr) :: zs3, c2, W2, ok, o2, _, x2, _, _, ?w1, ?w2, ?w3, ?w4, rfl, dk, hc2, hW2o, Sub.trans' hsub hsub2, fun p hp => hs12 p (hW0 p hp), hH2, fun z hz => (hIt z (hpm.mem_iff.mp (.tail _ hz))).mono hsub2, hT30', hT37', gz.1, rfl⟩
          case wlt => rw [← hms]; exact gz.2
          case w1 => exact e1
          case w2 => exact e2
          case w3 => exact e3
          case w4 => show some (Value.bool (xn.fdiv yn * yn + xn.fmod yn == xn)) = _; rw [hdf.2.2.1]; simp
      · -- one is left
        obtain ⟨⟨zv, zn, zr⟩, rfl⟩ : ∃ z, zs = [z] := by
          cases zs with
          | nil => exact absurd rfl hG.ne
          | cons z r => cases r with
            | nil => exact ⟨z, rfl⟩
            | cons y r => simp at hlen
        refine it1_use (hIt _ (.head _)) ?_
        intro kz rz txz cz vsz hmz hmrz hiz hlz
        have hz0 : (refs [(zv, zn, zr)])[(0 : Int).toNat]? = some (.ref zv) := rfl
        have gone := Good.one hG
        w_strict k_steps
        unfold Stop
        refine kup_newTuple (by k_asm) (by k_asm) ?_ (Nat.le_of_ble_eq_true rfl)
        intro Dz hz Fz Nz lz
        dsimp only
        w_strict k_steps
        subst hPP
        dsimp only
        w_strict k_steps
        (with_reducible rename News _ _ _ _ => Ne)
        exact hret _ _ _ _ (by k_asm) (endPick Ne) ⟨Dz, zn, txz, rz, vsz, cz, zr, ps30, ps37, ps58, W1, rfl, rfl, hT30, hT37, fun p hp => hW0 p (.tail _ hp), hW0 _ (.head _), fun p hp => ⟨(hW1 p hp).2.2.2.1, (hW1 p hp).2.2.2.2.1, (hW1 p hp).2.2.2.2.2⟩, fun p hp => lz p (.tail _ (.tail _ (.tail _ hp))), hmrz, hiz, gone.2.2.1, gone.2.2.2.1, gone.1, gone.2.1, gone.2.2.2.2⟩
end Mine
end SecLH
section SecIT
theorem Mine.offIT : True := by
  w_top off
  k_with_none
  trivial
open PySem PySem.W PyProof.Rows PySem.Spec PySem.Calls PyProof.Rows.LCg
set_option maxRecDepth 100000
set_option maxHeartbeats 8000000
namespace Mine
abbrev liObj (l : Addr) (i : Nat) : Obj := { cls := .type "list_iterator", data := .fields #[.ref l, .int i 0] }
section
variable {prog : Program} {w : World} {A : Around} {E : Value → Shared → Prop} {s : Shared} {h₀ : Heap} {L l I : Addr} {m : Str → Option Value} {news : List (Addr × Obj)} {items : Array Value} {env : Env}
theorem iterList {Q : Value → Shared → Prop} (F : Fr h₀ L s.heap m) (N : News h₀ L s.heap news) (hl : s.heap.IsList l items)
    (h : ∀ (I : Addr) h', Fr h₀ L h' m → News h₀ L h' ((I, liObj l 0) :: news) → (∀ p ∈ news, p.1 < I) → Q (.ref I) { s with heap := h' }) :
    wpAny (model prog w) A (call (.builtin "iter") [.ref l]) Q E s := by
  refine call_function_entry (by decide +kernel) (by decide +kernel) kdk_entry_iter (kdk_args_iter _) ?_
  unfold Builtin.«iter»
  refine wpAny_bind (m := someArgs "iter" 1 2 _) (wpAny_of_eq (a := [Value.ref l]) (by first | rfl | kernel_rfl!) ?_)
  show wpAny _ _ (pyIter (.ref l) >>= _) _ _ _
  refine wpAny_bind (wpAny_pyIter_list hl ?_)
  exact wpAny_pure ⟨_, rfl, h _ _ (F.push _) (News.push F N _ rfl) (fun q hq => Heap.lt_size (N q hq).1)⟩
theorem li_special {i : Nat} {x : Value} {Q : Option Value → Shared → Prop} (hit : s.heap.IsListIter I l i) (hl : s.heap.IsList l items) (hx : items[i]? = some x)
    (hQ : ∀ h', h'.IsListIter I l (i + 1) → Heap.SameBut I s.heap h' → Q (some x) { s with heap := h' }) :
    wpAny (model prog w) A (callSpecial? (.ref I) (Str.ofString "__next__")) Q E s := by
  obtain ⟨o, ho, hc, hd⟩ := id hit
  obtain ⟨ol, hol, _, nl, hdl⟩ := hl
  refine wpAny_callSpecial?_slot (name := Str.ofString "__next__") hit.typeIs slot_listiter_next
    (wpAny_call_entry slot_listiter_next hit.typeIs entry_listiter_next ?_ (args_listiter_next _))
  show wpAny _ _ (field (.ref I) 0 >>= _) _ _ s
  refine wpAny_bind (wpAny_field ho hd (x := .ref l) rfl ?_)
  show wpAny _ _ (if (Value.ref l == Value.none) = true then _ else _) _ _ s
  rw [if_neg (show ¬ ((Value.ref l == Value.none) = true) from Bool.false_ne_true)]
  show wpAny _ _ (field (.ref I) 1 >>= _) _ _ s
  refine wpAny_bind (wpAny_field ho hd (x := .int i 0) rfl ?_)
  show wpAny _ _ (seqItems? (.ref l) >>= _) _ _ s
  refine wpAny_bind (wpAny_seqItems hol hdl ?_)
  simp only [Int.toNat_natCast, hx]
  refine wpAny_bind (wpAny_setField ho hd (by simp) (wpAny_pure ⟨x, rfl, hQ _ ?_ (Heap.SameBut.update ..)⟩))
  exact ⟨_, Heap.get?_update_self _ ho (Obj.isFreed_of_fields (Obj.data_mapFields hd _)), (Obj.cls_mapFields ..).trans hc, by
    rw [Obj.data_mapFields hd]; simp [rawInt]⟩
theorem nextList {i : Nat} {x : Value} {oI : Obj} {Q : Value → Shared → Prop} (F : Fr h₀ L s.heap m) (N : News h₀ L s.heap ((I, oI) :: news)) (off : ∀ p ∈ news, p.1 ≠ I) (hit : s.heap.IsListIter I l i) (hl : s.heap.IsList l items) (hx : items[i]? = some x)
    (h : ∀ h' oI', Fr h₀ L h' m → News h₀ L h' ((I, oI') :: news) → h'.IsListIter I l (i + 1) → Q x { s with heap := h' }) :
    wpAny (model prog w) A (call (.builtin "next") [.ref I]) Q E s := by
  have hm := N (I, oI) (.head _)
  refine call_function_entry (by decide +kernel) (by decide +kernel) kdk_entry_next (kdk_args_next _) ?_
  unfold Builtin.«next»
  refine wpAny_bind (m := someArgs "next" 1 2 _) (wpAny_of_eq (a := [Value.ref I]) (by first | rfl | kernel_rfl!) ?_)
  dsimp only
  refine wpAny_bind (wpAny_specialOf (name := Str.ofString "__next__") hit.typeIs slot_listiter_next.lookup ?_)
  refine wpAny_ite_split (fun hab => absurd hab (by decide)) (fun _ => ?_)
  refine wpAny_bind (li_special hit hl hx fun h' hit' hs => ?_)
  obtain ⟨o', ho', hc', hd'⟩ := id hit'
  exact wpAny_pure ⟨_, rfl, h h' o' (F.change hs hm.2.1 hm.2.2) (fun p hp => by
    rcases List.mem_cons.mp hp with rfl | hp
    · exact ⟨ho', hm.2⟩
    · exact ⟨hs.extBut _ _ (off p hp) (N p (.tail _ hp)).1, (N p (.tail _ hp)).2⟩) hit'⟩
inductive FItSrc (prog : Program) (w : World) (A : Around) (h₀ : Heap) (L : Addr) (env : Env) (x : Str) (px : Pos) (body : List Stmt) (J : Nat → (Str → Option Value) → List (Addr × Obj) → Prop) (Q : Flow → Shared → Prop) (xv : Value) (s₁ : Shared)  : Prop
  | mk (I l : Addr) (items : Array Value) (c i₀ : Nat) (m : Str → Option Value) (news : List (Addr × Obj)) (w1 : xv = .ref I) (w2 : A.handled = none) (w3 : Fr h₀ L s₁.heap m) (w4 : News h₀ L s₁.heap news) (w5 : (∀ p ∈ news, p.1 ≠ I)) (w6 : I ≠ L) (w7 : h₀.get? I = none) (w8 : l ≠ I) (w9 : s₁.heap.IsListIter I l i₀) (w10 : i₀ ≤ items.size) (w11 : J i₀ m news) (w12 : (∀ i m₁ news₁, J i m₁ news₁ → (l, PySem.W.listOf items c) ∈ news₁)) (w13 : (∀ i v m₁ news₁ h₁ tk₁ oI (E' : Value → Shared → Prop), i < items.size → items[i]? = some v → Fr h₀ L h₁ m₁ → News h₀ L h₁ ((I, oI) :: news₁) → (∀ p ∈ news₁, p.1 ≠ I) → J i m₁ news₁ → wpAny (model prog w) A (assign (.Name x px) env v) (fun _ s₂ => wpAny (model prog w) A (execs body env) (FEnd h₀ L s₁ I oI J (i + 1)) E' s₂) E' { s₁ with heap := h₁, toks := tk₁ })) (w14 : ∀ m₁ news₁ h₁ tk₁, Fr h₀ L h₁ m₁ → News h₀ L h₁ news₁ → J items.size m₁ news₁ → Q .next { s₁ with heap := h₁, toks := tk₁ })
theorem forIt {x : Str} {px pos : Pos} {iter : PySem.Expr} {body : List Stmt} {Q : Flow → Shared → Prop} (J : Nat → (Str → Option Value) → List (Addr × Obj) → Prop)
    (h : wpAny (model prog w) A (eval iter env) (FItSrc prog w A h₀ L env x px body J Q) E s) (hs : ∀ x, foldedSetIterable iter env x = pure x := by intro _; rfl) :
    wpAny (model prog w) A (exec (.For (.Name x px) iter body [] pos) env) Q E s := by
  refine wpAny_For (wpAny_mono h (fun xv s₁ h₁ => ?_) fun _ _ e => e) hs
  obtain ⟨I, l, items, c, i₀, m, news, rfl, hh, F, N, off₀, hIL, hI₀, hlI, hit, hi₀, hJ, hJl, turn, fin⟩ := h₁
  refine wpAny_pyIter_listiter hit ?_
  have W := Walks.list (prog := prog) (w := w) hh I l hlI items
  have isl : ∀ {h : Heap} {i m₁ news₁}, News h₀ L h news₁ → J i m₁ news₁ → h.IsList l items := fun N J => ⟨_, (N _ (hJl _ _ _ J)).1, rfl, _, rfl⟩
  refine codeAny_forLoop (fun k s' => ∃ h' tk i m' news', s' = { s₁ with heap := h', toks := tk } ∧ i ≤ items.size ∧ k = items.size + 1 - i ∧ h'.IsListIter I l i ∧ Fr h₀ L h' m' ∧ News h₀ L h' news' ∧ (∀ p ∈ news', p.1 ≠ I) ∧ J i m' news') ?_ (items.size + 1 - i₀)
    ⟨_, _, i₀, m, news, rfl, hi₀, rfl, hit, F, N, off₀, hJ⟩
  rintro k s' ⟨h', tk, i, m', news', rfl, hi, rfl, hst, F', N', off, J'⟩
  by_cases hlt : i < items.size
  · refine W.item i _ _ _ hlt ⟨hst, isl N' J'⟩ fun v h₂ tk₂ hPv hst₂ hk₂ => ?_
    obtain ⟨oI, hoI, hoc, hod⟩ := id hst₂.1
    have F₂ := fr_but F' hk₂ (Ne.symm hIL) hI₀
    have N₂ := news_but N' hk₂ off
    have := turn i v m' news' h₂ tk₂ oI (notedBy (model prog w) A env fun e s' => cameBackBy (model prog w) A env E e s') hlt hPv F₂ (fun p hp => by
      rcases List.mem_cons.mp hp with rfl | hp
      · exact ⟨hoI, hIL, hI₀⟩
      · exact N₂ p hp) off J'
    refine wpAny_mono this (fun _ s₂ hb => wpAny_mono hb (fun f s₃ hf => ?_) fun _ _ e => e) fun _ _ e => e
    obtain ⟨hfl, h₄, tk₄, m₄, news₄, rfl, F₄, N₄, off₄, J₄⟩ := hf
    have done : ∃ m, m < items.size + 1 - i ∧ ∃ h' tk j m' news', ({ s₁ with heap := h₄, toks := tk₄ } : Shared) = { s₁ with heap := h', toks := tk } ∧ j ≤ items.size ∧ m = items.size + 1 - j ∧ h'.IsListIter I l j ∧ Fr h₀ L h' m' ∧ News h₀ L h' news' ∧ (∀ p ∈ news', p.1 ≠ I) ∧ J j m' news' :=
      ⟨items.size + 1 - (i + 1), by omega, h₄, tk₄, i + 1, m₄, news₄, rfl, hlt, rfl, ⟨oI, (N₄ _ (.head _)).1, hoc, hod⟩, F₄, fun p hp => N₄ p (.tail _ hp), off₄, J₄⟩
    rcases hfl with rfl | rfl <;> exact done
  · obtain rfl : i = items.size := by omega
    refine W.done _ _ _ ⟨hst, isl N' J'⟩ fun h₂ tk₂ hk₂ => ?_
    exact wpAny_execs_nil (fin m' news' h₂ _ (fr_but F' hk₂ (Ne.symm hIL) hI₀) (news_but N' hk₂ off) J')
end
end Mine
end SecIT
section SecRD
theorem Mine.offRD : True := by
  w_top off
  k_with_none
  trivial
open PySem PySem.W PyProof.Rows PySem.Spec PySem.Calls
set_option maxRecDepth 100000
set_option maxHeartbeats 4000000
namespace Mine
theorem rulesRD : True := by
  k_with_none
  k_with "call ref" => refine stop ?_
  k_with "call builtin:iter" => refine stop ?_
  k_with "call builtin:next" => refine stop ?_
  k_with "exec For Name Name cons nil" => refine stop ?_
  k_with "exec For Name Name" => refine stop ?_
  k_with "exec For" => refine stop ?_
  k_with "FItSrc" => refine stop ?_
  k_with "eval Name" => (k_here; k_dflt (refine' ld (by k_asm) (by first | exact rfl | assumption) ?_; k_whole))
  trivial
theorem ints_all {vs : List Value} {ns : List Int} {i : Nat} (h : IntsAre vs ns) (hi : i < ns.length) : ∃ t, vs[i]? = some (.int (ns.getD i 0) t) := by
  induction h generalizing i with
  | nil => simp at hi
  | cons a t r ih =>
    cases i with
    | zero => exact ⟨t, rfl⟩
    | succ i => obtain ⟨t', e⟩ := ih (i := i) (by simpa using hi); exact ⟨t', by simpa using e⟩
theorem Grow.drop {Wa W W' : List (Addr × Obj)} (h : Grow Wa W W') : Grow [] W W' := ⟨h.1, fun p hp => (h.2 p hp).imp id fun q r hr => q r (List.mem_append_right _ hr)⟩
inductive RJ (ns : List Int) (W0 : List (Addr × Obj)) (i : Nat) (m : Str → Option Value) (news : List (Addr × Obj))  : Prop
  | mk (ps30 : _) (ps37 : _) (W : _) (v : _) (t : _) (w1 : m (Str.ofString "value") = some (.int v t)) (w2 : m (Str.ofString "function") = some (.ref 114)) (w3 : news = (30, tabObj ps30) :: (37, tabObj ps37) :: W) (w4 : T30 ps30 W) (w5 : T37 ps37 W) (w6 : Grow [] W0 W) (w7 : (∀ p ∈ W, p.1 ≠ 30 ∧ p.1 ≠ 37)) (w8 : 0 < v) (w9 : v < 2 ^ 20) (w10 : ∀ d, d ∣ v ↔ ∀ n ∈ ns.take i, d ∣ n)
theorem reduce1 (w : World) (W : List (Addr × Obj)) (ps30 ps37 : Array Value) (l : Addr) (vs : List Value) (ns : List Int) (c : Nat) (hl : (l, PySem.W.listOf vs.toArray c) ∈ W) (hvs : IntsAre vs ns) (hne : ns ≠ []) (hns : ∀ n ∈ ns, 0 < n ∧ n < 2 ^ 20)
    (h30 : T30 ps30 W) (h37 : T37 ps37 W) (hW : ∀ p ∈ W, p.1 ≠ 30 ∧ p.1 ≠ 37) :
    Ct w 72 [.ref 114, .ref l] 340 ((30, tabObj ps30) :: (37, tabObj ps37) :: W) (RetG [] W fun r => ∃ g t, r = .int g t ∧ 0 < g ∧ g < 2 ^ 20 ∧ ∀ d, d ∣ g ↔ ∀ n ∈ ns, d ∣ n) := by
  have hvl : vs.length = ns.length := hvs.length
  have hn0 : 0 < ns.length := List.length_pos_iff.mpr hne
  obtain ⟨t0, hv0⟩ := ints_all hvs hn0
  unfold Ct; k_fill
  intro p loose mean mg mb dp un gd cn cs a ccd cl outer A₀ base h₀ L m s Q E B C1 C2 C3 F X N T hk hd hu hret
  refine wpAny_call ?_
  k_dflt (refine' code_def ?k1 ?k2 ?k3 ?k4 ?k5 ?kA ?kF ?kK ?k6 ?k7 ?k8 ?k9 ?kB ?_ ?c2 ?c3 ?c4 ?c5; (case kA => exact rfl); (case kF => exact rfl); (case kK => assumption); (case k1 => k_asm); (case k2 => k_asm); (case k3 => k_asm); (case k4 => k_asm); (case k5 => k_asm); (case k6 => k_is); (case k7 => k_is); (case k8 => ktr_room); (case k9 => exact binds_K (by k_in) rfl (by k_is) rfl rfl rfl); (case c5 => decide); (case kB => exact locs rfl); (case c2 => exact rfl); (case c3 => exact rfl); (case c4 => exact rfl); k_whole; intro g' L' h' FG' F' N' B' X' T'; (try dsimp only); (try k_fold))
  w_strict k_steps
  unfold Stop
  (with_reducible rename News _ _ _ _ => N1)
  refine iterList (items := vs.toArray) (by k_asm) N1 ⟨_, (N1 _ (.tail _ (.tail _ hl))).1, rfl, _, rfl⟩ ?_
  intro I hI FI NI lI
  dsimp only
  w_strict k_steps
  unfold Stop
  (with_reducible rename News _ _ _ _ => N2)
  have hne' : ∀ p ∈ (30, tabObj ps30) :: (37, tabObj ps37) :: W, p.1 ≠ I := fun p hp => Nat.ne_of_lt (lI p hp)
  refine nextList (i := 0) (l := l) (items := vs.toArray) (x := .int (ns.getD 0 0) t0) (by k_asm) N2 hne' ⟨_, (N2 _ (.head _)).1, rfl, rfl⟩ ⟨_, (N2 _ (.tail _ (.tail _ (.tail _ hl)))).1, rfl, _, rfl⟩ (by simpa using hv0) ?_
  intro hN oI1 FN NN hitN
  obtain ⟨oX, eX, hcX, hdX⟩ := hitN
  rw [(NN _ (.head _)).1] at eX
  cases eX
  clear N2
  have hg0 : ns.getD 0 0 ∈ ns := by rw [List.getD_eq_getElem?_getD, List.getElem?_eq_getElem hn0, Option.getD_some]; exact List.getElem_mem hn0
  have hgi : ∀ i, i < ns.length → ns.getD i 0 ∈ ns := fun i hi => by rw [List.getD_eq_getElem?_getD, List.getElem?_eq_getElem hi, Option.getD_some]; exact List.getElem_mem hi
  dsimp only
  w_strict k_steps
  unfold Stop
  refine forIt (h₀ := g') (L := L') (RJ ns W) ?_
  w_strict k_steps
  unfold Stop
  (with_reducible rename News _ _ _ _ => N3)
  (with_reducible rename Fr _ _ _ _ => F3)
  refine ⟨I, l, vs.toArray, c, 1, _, (30, tabObj ps30) :: (37, tabObj ps37) :: W, rfl, rfl, F3, fun p hp => N3 p (.tail _ hp), hne', (N3 _ (.head _)).2.1, (N3 _ (.head _)).2.2, hne' _ (.tail _ (.tail _ hl)), ⟨oI1, (N3 _ (.head _)).1, hcX, hdX⟩, by rw [List.size_toArray]; omega, ?J1, ?Jl, ?turn, ?fin⟩
  case J1 =>
    refine ⟨ps30, ps37, W, ns.getD 0 0, t0, rfl, rfl, rfl, h30, h37, Grow.refl _ _, hW, (hns _ hg0).1, (hns _ hg0).2, fun d => ?_⟩
    cases ns with
    | nil => exact absurd rfl hne
    | cons a r => simp
  case Jl =>
    rintro i m₁ _ ⟨ps30', ps37', W1, v1, t1, e1, e2, rfl, hT30, hT37, hG, hW1, hv0, hv1, hdv⟩
    exact .tail _ (.tail _ (hG.1 _ hl))
  case turn =>
    rintro i v m₁ _ h₁ tk₁ oI E' hi hv F4 N4 off4 ⟨ps30', ps37', W1, v1, t1, e1, e2, rfl, hT30, hT37, hG, hW1, hv0', hv1, hdv⟩
    have hil : i < ns.length := by rw [List.size_toArray] at hi; omega
    obtain ⟨tv, hvi⟩ := ints_all hvs hil
    obtain rfl : v = .int (ns.getD i 0) tv := by rw [List.getElem?_toArray] at hv; rw [hvi] at hv; exact (Option.some.inj hv).symm
    have hni := hns _ (hgi i hil)
    w_strict k_steps
    unfold Stop
    (with_reducible rename News _ _ _ _ => N5)
    have N5' : News g' L' _ ((30, tabObj ps30') :: (37, tabObj ps37') :: ([(I, oI)] ++ W1)) := fun p hp => N5 p (by
      simp only [List.mem_cons, List.mem_append, List.not_mem_nil, or_false] at hp ⊢
      rcases hp with h | h | h | h <;> simp [h])
    k_dflt (refine' measure1 w [(I, oI)] W1 ps30' ps37' v1 (ns.getD i 0) _ _ ?p1 ?p2 ?p3 ?p4 ?p5 ?p6 ?p7 ?p8 _ _ _ _ _ _ _ _ _ _ _ _ _ _ _ _ _ _ _ _ _ _ ?k1 ?c1 ?c2 ?c3 ?k2 ?k3 N5' ?k5 ?kK ?kd ?ku ?_; (case k1 => k_asm); (case k2 => k_asm); (case k3 => k_asm); (case k5 => k_asm); (case kK => first | exact rfl | assumption))
    (case p1 => exact hv0')
    (case p2 => exact hv1)
    (case p3 => exact hni.1)
    (case p4 => exact hni.2)
    (case p5 => exact hT30)
    (case p6 => exact hT37)
    (case p7 => exact fun p hp => by rw [List.mem_singleton.mp hp]; exact ⟨Ne.symm (off4 (30, tabObj ps30') (.head _)), Ne.symm (off4 (37, tabObj ps37') (.tail _ (.head _)))⟩)
    (case p8 => exact hW1)
    (case c1 => assumption)
    (case c2 => assumption)
    (case c3 => assumption)
    (case kd => dsimp only [ktrTop]; omega)
    (case ku => dsimp only [ktrTop]; omega)
    rintro r9 news9 h9 tk9 F9 N9 ⟨ps30'', ps37'', W2, rfl, hT30', hT37', hG2, hW2, g, tg, rfl, hg0', hg1, hgd⟩
    clear N5 N5'
    dsimp only
    w_strict k_steps
    (with_reducible rename News _ _ _ _ => N6)
    (with_reducible rename Fr _ _ _ _ => F6)
    have hoff2 := hG2.off (x := (I, oI)) (.head _) fun p hp => off4 p (.tail _ (.tail _ hp))
    refine ⟨.inl rfl, _, _, _, (30, tabObj ps30'') :: (37, tabObj ps37'') :: W2, rfl, F6, ?N7, ?off7, ps30'', ps37'', W2, g, tg, ?ev, ?ef, rfl, hT30', hT37', hG.trans hG2.drop, hW2, hg0', hg1, fun d => ?dv⟩
    case N7 => exact fun p hp => N6 p (by
      simp only [List.mem_cons, List.mem_append, List.not_mem_nil, or_false] at hp ⊢
      rcases hp with h | h | h | h <;> simp [h])
    case off7 =>
      intro p hp
      rcases List.mem_cons.mp hp with rfl | hp
      · exact off4 (30, tabObj ps30') (.head _)
      · rcases List.mem_cons.mp hp with rfl | hp
        · exact off4 (37, tabObj ps37') (.tail _ (.head _))
        · exact hoff2 p hp
    case ev => rfl
    case ef => exact e2
    case dv =>
      rw [hgd d, hdv d, List.take_succ_eq_append_getElem hil]
      have e : ns.getD i 0 = ns[i] := by rw [List.getD_eq_getElem?_getD, List.getElem?_eq_getElem hil, Option.getD_some]
      rw [e]
      simp only [List.mem_append, List.mem_singleton]
      exact ⟨fun h n hn => hn.elim (h.1 n) fun q => q ▸ h.2, fun h => ⟨fun n hn => h n (.inl hn), h _ (.inr rfl)⟩⟩
  case fin =>
    rintro m₁ _ h₁ tk₁ F4 N4 ⟨ps30', ps37', W1, v1, t1, e1, e2, rfl, hT30, hT37, hG, hW1, hv0', hv1, hdv⟩
    w_strict k_steps
    exact hret _ _ _ _ (by k_asm) (by k_asm) ⟨ps30', ps37', W1, rfl, hT30, hT37, hG, hW1, v1, t1, rfl, hv0', hv1, fun d => by rw [hdv d, List.take_of_length_le (by rw [List.size_toArray]; omega)]⟩
end Mine
end SecRD
section SecCZ
theorem Mine.offCZ : True := by
  w_top off
  k_with_none
  trivial
open PySem PySem.W PyProof.Rows PySem.Spec PySem.Calls PyProof.Rows.LCg
set_option maxRecDepth 100000
set_option maxHeartbeats 8000000
namespace Mine
section
variable {prog : Program} {w : World} {A : Around} {E : Value → Shared → Prop} {s : Shared} {h₀ : Heap} {L : Addr} {m : Str → Option Value} {env : Env}
theorem comp_indZ {elt : Expr} {x : Str} {scope : Scope} {cl : List (Str × Addr)} {S : List (Addr × Obj) → Prop} {P : Nat → Value → Prop} {Fin : Nat → List Value → List (Addr × Obj) → Prop} {news : List (Addr × Obj)} (f : Nat → Int) (hS : S news)
    (step : ∀ i ys v I oI C oC D m₂ h tk (E' : Value → Shared → Prop), P i v → NsObj oC m₂ → m₂ x = some v → Fr h₀ L h m → News h₀ L h ((I, oI) :: (C, oC) :: (D, lst ys) :: news) → Off3 I C D news → ((@Ne Nat I C) ∧ (@Ne Nat I D) ∧ (@Ne Nat C D)) →
      wpAny (model prog w) A (eval elt (compEnvC scope cl C env)) (IntEnd (f i) s h) E' { s with heap := h, toks := tk }) :
    ∀ (k n i : Nat) (ys : List Value) (ns : List Int), IntsAre ys ns → (∀ zs, IntsAre zs (ns ++ (List.range' i k).map f) → Fin n zs news) → RestZ prog w A h₀ L m env elt x scope cl s S P Fin k n i ys news
  | 0, n, i, ys, ns, hy, fin => RestZ.zero (fin ys (by simpa using hy))
  | k + 1, n, i, ys, ns, hy, fin => RestZ.succ fun v I oI C oC D m₂ h tk E' hv hC hx F N off ne Z => by
    refine wpAny_mono (step i ys v I oI C oC D m₂ h tk E' hv hC hx F N off ne) (fun y s₂ hq => ?_) fun _ _ e => e
    obtain ⟨t, tk', rfl, rfl⟩ := hq
    exact EndZ.intro Z ⟨h, tk', news, rfl, F, N, off, hS, comp_indZ f hS step k n (i + 1) _ (ns ++ [f i]) (ints_append hy (.cons _ _ .nil)) fun zs hz => fin zs (by
      rw [List.range'_succ, List.map_cons]
      simpa using hz)⟩
/-- a comprehension whose test never holds -/
inductive FiltEnd (h₀ : Heap) (L : Addr) (m : Str → Option Value) (s : Shared) (I : Addr) (oI : Obj) (C : Addr) (oC : Obj) (D : Addr) (S J : List (Addr × Obj) → Prop) (ok : Bool) (s₂ : Shared)  : Prop
  | mk (w1 : ok = false) (h' : _) (tk : _) (news' : _) (w2 : s₂ = { s with heap := h', toks := tk }) (w3 : Fr h₀ L h' m) (w4 : News h₀ L h' ((I, oI) :: (C, oC) :: (D, lst []) :: news')) (w5 : Off3 I C D news') (w6 : S news') (w7 : J news')
theorem filt_ind {ct elt : Expr} {x : Str} {scope : Scope} {cl : List (Str × Addr)} {S : List (Addr × Obj) → Prop} {P : Nat → Value → Prop} {Fin : List Value → List (Addr × Obj) → Prop} (J : List (Addr × Obj) → Prop)
    (step : ∀ i v I oI C oC D m₂ h tk (E' : Value → Shared → Prop) news, P i v → NsObj oC m₂ → m₂ x = some v → Fr h₀ L h m → News h₀ L h ((I, oI) :: (C, oC) :: (D, lst []) :: news) → Off3 I C D news → ((@Ne Nat I C) ∧ (@Ne Nat I D) ∧ (@Ne Nat C D)) → J news →
      wpAny (model prog w) A (isTrue ct (compEnvC scope cl C env) (eval ct (compEnvC scope cl C env))) (FiltEnd h₀ L m s I oI C oC D S J) E' { s with heap := h, toks := tk }) (fin : ∀ news, J news → Fin [] news) :
    ∀ (k i : Nat) (news : List (Addr × Obj)), J news → LCt.CompRestT prog w A h₀ L m env ct elt x scope cl s S P Fin k i [] news
  | 0, i, news, hJ => LCt.CompRestT.zero (fin news hJ)
  | k + 1, i, news, hJ => LCt.CompRestT.succ fun v I oI C oC D m₂ h tk E' hv hC hx F N off ne => by
    refine wpAny_mono (step i v I oI C oC D m₂ h tk E' news hv hC hx F N off ne hJ) (fun ok s₂ hq => ?_) fun _ _ e => e
    obtain ⟨rfl, h', tk', news', rfl, F', N', off', hS, hJ'⟩ := hq
    simp only [Bool.false_eq_true, if_false]
    exact ⟨h', tk', news', rfl, F', N', off', hS, filt_ind J step fin k (i + 1) news' hJ'⟩
end
theorem lawPick {g h : Heap} {L : Addr} {D a b c e S x30 x37 x58 : Addr × Obj} (N : News g L h (D :: a :: b :: c :: e :: S :: x30 :: x37 :: x58 :: [])) : News g L h (D :: x30 :: x37 :: x58 :: [e]) := fun p hp => N p (by
  simp only [List.mem_cons, List.not_mem_nil, or_false] at hp ⊢
  rcases hp with h | h | h | h | h <;> simp [h])
noncomputable def offA (a : Addr) (W : List (Addr × Obj)) : List (Addr × Obj) := W.filter fun p => decide (p.1 ≠ a)
theorem offA_mem {a : Addr} {W : List (Addr × Obj)} {p : Addr × Obj} : p ∈ offA a W ↔ p ∈ W ∧ p.1 ≠ a := by simp [offA]
theorem t30_offA {ps : Array Value} {W : List (Addr × Obj)} {a : Addr} {o : Obj} {x : Option Value} {h : Heap} (T : T30 ps W) (hW : ∀ p ∈ W, h.get? p.1 = some p.2) (ha : h.get? a = some o) (ho : o.data = .cell x) : T30 ps (offA a W) := by
  rcases T with q | ⟨c, oc, cvs, ct, q, hm, hd, hv⟩
  · exact .inl q
  · refine .inr ⟨c, oc, cvs, ct, q, offA_mem.mpr ⟨hm, fun e => ?_⟩, hd, hv⟩
    have := hW _ hm
    dsimp only at e this
    rw [e, ha] at this; cases this; rw [ho] at hd; cases hd
theorem t37_offA {ps : Array Value} {W : List (Addr × Obj)} {a : Addr} {o : Obj} {x : Option Value} {h : Heap} (T : T37 ps W) (hW : ∀ p ∈ W, h.get? p.1 = some p.2) (ha : h.get? a = some o) (ho : o.data = .cell x) : T37 ps (offA a W) := by
  rcases T with q | ⟨c, oc, cvs, ct, q, hm, hd, hv⟩
  · exact .inl q
  · refine .inr ⟨c, oc, cvs, ct, q, offA_mem.mpr ⟨hm, fun e => ?_⟩, hd, hv⟩
    have := hW _ hm
    dsimp only at e this
    rw [e, ha] at this; cases this; rw [ho] at hd; cases hd
end Mine
end SecCZ
section SecCT
theorem Mine.offCT : True := by
  w_top off
  k_with_none
  trivial
open PySem PySem.W PyProof.Rows PySem.Spec PySem.Calls
set_option maxRecDepth 100000
set_option maxHeartbeats 8000000
namespace Mine
section
variable {prog : Program} {w : World} {A : Around} {E : Value → Shared → Prop} {s : Shared} {g : Heap} {news : List (Addr × Obj)} {n : Nat}
theorem codeDefTop {R : Result → Shared → Prop} {K : Frag} {p : Program} {loose : List Str} {mean : ExcName → Option Value} {mg mb : Str → Option Value} {name qual : Str} {params : Arguments} {body : List Stmt} {scope : Scope} {dV kV doc pm cdv ct oc : Value} {an od : Option Addr} {osl : Array (Option Value)} {f : Addr} {args : Args} {x : Str} {v : Value} {c : Nat}
    (hg : ∀ b o, g.get? b = some o → s.heap.get? b = some o) (hgs : g.objs.size = s.heap.objs.size) (X₀ : K.In g) (N : ∀ q ∈ news, s.heap.get? q.1 = some q.2 ∧ g.get? q.1 = none) (T : Top p loose mean mg mb g)
    (Z : s.heap.objs.size = n)
    (ho : K.lookup f = some ⟨oc, od, .func (fnOf name qual params body scope dV kV doc pm an cdv ct), osl⟩) (hcd : codeIn K cdv qual = true) (hroom : A.depth < recursionLimit)
    (hbind : BindsTo s (fnOf name qual params body scope dV kV doc pm an cdv ct) args [(x, v)]) (hl : scope.names.lookup x = some .local)
    (hnd : ((cellsFrom 0 scope.names []).map (·.1)).Nodup) (hc : 1 + (scope.names.filter fun y => y.2 == .cell).length = c)
    (h : ∀ L' h₁ tk cells, Fr g L' h₁ (bindL (envOfC qual scope L' f cdv).kindOf [(x, v)] fun _ => none) → News g L' h₁ (cells ++ news) →
      CellsAre (bindC (envOfC qual scope L' f cdv).kindOf [(x, v)] fun _ => none) (cellsFrom (L' + 1) scope.names []) cells → (∀ p ∈ news, p.1 < L') → h₁.objs.size = n + c →
      wpAny (model prog w) (A.deeper (envOfC qual scope L' f cdv)) (execs body (envOfC qual scope L' f cdv))
        (fun fl s' => R (.ok (.ret (match fl with | .ret v => v | _ => .none))) s')
        (fun e s' => wpAny (model prog w) (A.deeper (envOfC qual scope L' f cdv)) (leaving (envOfC qual scope L' f cdv) e) (fun _ s'' => R (.error e) s'') (fun e' s'' => R (.error e') s'') s')
        { s with heap := h₁, toks := tk })
    (hco : scope.isCoroutine = false) (hgen : scope.isGenerator = false) (hk : scope.kind = .function) : codeAny (model prog w) A (.call (.ref f) args) R s := by
  have X := X₀.keeps hg
  refine codeAny_call_function hroom (X _ _ ho) rfl hco hgen rfl (codeRec_of X hcd) (hbind _ _ _ _ ?_)
  refine newEnvZ hk hl fun env' he s' y hz => ?_
  subst he
  refine ⟨(T.nolimit.keeps hg).keeps y.toInCall.keep, codeAny_func ?_⟩
  obtain ⟨h₁, tk, rfl, _⟩ := y.done
  have hk₁ := y.toInCall.keep
  obtain ⟨cells, NC, Y⟩ := Cl.news (h₀ := s.heap) (Nat.le_refl _) fun n c hm => ⟨y.cell n c (lookup_of_mem_nodup (cellsFrom_names scope.names 0 (s.heap.objs.size + 1) [] [] rfl ▸ hnd) hm), y.above n c hm⟩
  refine h s.heap.objs.size h₁ tk cells ⟨y.toInCall.ns, fun b o e => hk₁ b o (hg _ _ e), Nat.le_of_eq hgs⟩ (fun p hp => ?_) Y (fun p hp => Heap.lt_size (N p hp).1) (by rw [← hc, ← Z, ← Nat.add_assoc]; exact hz)
  rcases List.mem_append.mp hp with hp | hp
  · refine ⟨(NC p hp).1, (NC p hp).2.1, ?_⟩
    cases q : g.get? p.1 with
    | none => rfl
    | some o => have := hg _ _ q; rw [(NC p hp).2.2] at this; cases this
  · exact ⟨hk₁ _ _ (N p hp).1, Nat.ne_of_lt (Heap.lt_size (N p hp).1), (N p hp).2⟩
end
end Mine
end SecCT
section SecLT
theorem Mine.offLT : True := by
  w_top off
  k_with_none
  trivial
open PySem PySem.W PyProof.Rows PySem.Spec PySem.Calls PyProof.Rows.LCg
set_option maxRecDepth 100000
set_option maxHeartbeats 16000000
namespace Mine
theorem rulesLT : True := by
  k_with_none
  k_with "call ref" => refine stop ?_
  k_with "newList" => (k_here; k_dflt (refine' newListZ (by k_asm) (by k_asm) (by assumption) ?_; k_whole); intro lq9 hq9 Fq9 Nq9 l1q Zq9; (try k_lt l1q); (try k_sweep))
  k_with "storeName" => (k_here; k_dflt (refine' storeZ (by k_asm) (by k_asm) (by assumption) ?_ (by rfl) (by rfl); k_whole; intro hq9 Fq9 Nq9 Zq9; (try k_sweep)))
  k_with "subscriptTail Name Slice ref ref" => (k_here; k_dflt (refine' sliceZ (by k_asm) (by k_asm) (by assumption) (by kmk_list) (by kmk_part) (by kmk_part) (by assumption) ?_ (by with_unfolding_all rfl) (by kmk_pure) (by assumption)); intro Dq9 hq9 Fq9 Nq9 l1q Zq9; (try k_lt l1q); (try k_sweep))
  k_with "binaryOp Add ref ref" => refine stop ?_
  k_with "eval ListComp" => ((with_reducible rename Array.size _ = _ => Zz); (with_reducible show wpAny _ _ (eval (PySem.Expr.ListComp _ [⟨PySem.Expr.Name _ _, _, [], _⟩] _ _) _) _ _ _); k_here; k_dflt (refine listCompZ (F₀ := by k_asm) (by rfl) (by decide) (by rfl) (by decide) (by rfl) ?_))
  k_with "eval ListComp" => ((with_reducible show wpAny _ _ (eval (PySem.Expr.ListComp _ [⟨PySem.Expr.Tuple _ _ _, _, _, _⟩] _ _) _) _ _ _); refine stop ?_)
  k_with "eval ListComp" => ((with_reducible show wpAny _ _ (eval (PySem.Expr.ListComp _ [⟨_, _, [_], _⟩] _ _) _) _ _ _); refine stop ?_)
  k_with "call type:zip" => refine stop ?_
  k_with "SrcZ" => refine stop ?_
  k_with "IntEnd" => refine stop ?_
  k_with "FiltEnd" => refine stop ?_
  k_with "CompSrcT" => refine stop ?_
  k_with "eval Name" => (k_here; k_dflt (refine' nmL (by k_asm) (by rfl) (by rfl) (by first | exact rfl | assumption) ?_; k_whole))
  trivial
noncomputable def numF (x : Int) : Int := x.fmod (10 ^ Int.toNat 6) + 1
noncomputable def numsOf (xs : List Int) : List Int := xs.map numF ++ [1260, 2310, 990, 1365]
theorem numF_ok (x : Int) : 0 < numF x ∧ numF x < 2 ^ 20 := by
  unfold numF
  have e : (10 : Int) ^ Int.toNat 6 = 1000000 := by decide
  rw [e, Int.fmod_eq_emod_of_nonneg _ (by omega)]
  omega
theorem numsOf_ok (xs : List Int) : ∀ n ∈ numsOf xs, 0 < n ∧ n < 2 ^ 20 := fun n hn => by
  rcases List.mem_append.mp hn with h | h
  · obtain ⟨x, _, rfl⟩ := List.mem_map.mp h; exact numF_ok x
  · simp only [List.mem_cons, List.not_mem_nil, or_false] at h
    rcases h with rfl | rfl | rfl | rfl <;> omega
theorem nums_ints {vs : List Value} {xs : List Int} (h : IntsAre vs (xs.map numF)) (t1 t2 t3 t4 : Tok) : IntsAre (vs ++ [.int 1260 t1, .int 2310 t2, .int 990 t3, .int 1365 t4]) (numsOf xs) := ints_append h (.cons 1260 _ (.cons 2310 _ (.cons 990 _ (.cons 1365 _ .nil))))
inductive LJ (cm Nl : Addr) (oc : Obj) (nvs : List Value) (news : List (Addr × Obj))  : Prop
  | mk (ps30 : _) (ps37 : _) (ps58 : _) (W : _) (w1 : news = (cm, oc) :: (Nl, listOf (List.toArray nvs) 0) :: (30, tabObj ps30) :: (37, tabObj ps37) :: W) (w2 : T30 ps30 W) (w3 : T37 ps37 W) (w4 : (58, tabObj ps58) ∈ W) (w5 : ∀ p ∈ W, p.1 ≠ cm ∧ p.1 ≠ Nl ∧ p.1 ≠ 30 ∧ p.1 ≠ 37)
theorem fdiv_zero {n g : Int} (h : g ∣ n) : n.fmod g = 0 := Int.fmod_eq_zero_of_dvd h
theorem lawPick2 {g h : Heap} {L : Addr} {D a b c e x30 x37 x58 : Addr × Obj} (N : News g L h (D :: a :: b :: c :: e :: x30 :: x37 :: x58 :: [])) : News g L h (D :: x30 :: x37 :: x58 :: [e]) := fun p hp => N p (by
  simp only [List.mem_cons, List.not_mem_nil, or_false] at hp ⊢
  rcases hp with h | h | h | h | h <;> simp [h])
theorem hret_use {gg : Heap} {Nl cm L : Addr} {m : Str → Option Value} {nvs : List Value} {ns : List Int} {oc : Obj} {xc : Option Value} {G : Value → Heap → Nat → Prop} (hn : IntsAre nvs ns) (hcd : oc.data = .cell xc) (h58c : (58 : Addr) ≠ cm)
    (k : ∀ nvs t g tg rr rvs rc row ps30 ps37 ps58 W3 h3 tk3, IntsAre nvs ns → Fr gg L h3 m → News gg L h3 ((cm, oc) :: (t, tupO #[.bool true, .int g tg, .ref rr]) :: (Nl, listOf (List.toArray nvs) 0) :: (30, tabObj ps30) :: (37, tabObj ps37) :: W3) →
      T30 ps30 W3 → T37 ps37 W3 → (58, tabObj ps58) ∈ W3 → (∀ p ∈ W3, p.1 ≠ cm ∧ p.1 ≠ Nl ∧ p.1 ≠ 30 ∧ p.1 ≠ 37) → (rr, listOf (List.toArray rvs) rc) ∈ W3 → cm < t → Nl < t → 30 < t → 37 < t → IntsAre rvs row → row.length = ns.length → dot row ns = g → 0 < g → g < 2 ^ 20 → (∀ n ∈ ns, g ∣ n) → G (.ref t) h3 tk3) :
    ∀ r news' h' tk', Fr gg L h' m → News gg L h' news' → HRet Nl nvs ns 0 [(cm, oc)] r news' → G r h' tk' := by
  rintro r n3 h3 tk3 F3 N3 ⟨t, g, tg, rr, rvs, rc, row, ps30, ps37, ps58, W2, rfl, rfl, hT30, hT37, hW0, h58, hW2, hlt, hmr, hri, hrl, hdot, hg0, hg1, hgd⟩
  have hcm := hW0 _ (.head _)
  have N3h : ∀ p ∈ W2, h3.get? p.1 = some p.2 := fun p hp => (N3 p (.tail _ (.tail _ (.tail _ (.tail _ hp))))).1
  refine k nvs t g tg rr rvs rc row ps30 ps37 ps58 (offA cm W2) h3 tk3 hn F3 (fun p hp => N3 p ?_) (t30_offA hT30 N3h (N3h _ hcm) hcd) (t37_offA hT37 N3h (N3h _ hcm) hcd) (offA_mem.mpr ⟨h58, h58c⟩) (fun p hp => ⟨(offA_mem.mp hp).2, hW2 p (offA_mem.mp hp).1⟩) (offA_mem.mpr ⟨hmr, fun e => ?_⟩)
    (hlt _ (.tail _ (.tail _ (.tail _ hcm)))) (hlt _ (.head _)) (hlt _ (.tail _ (.head _))) (hlt _ (.tail _ (.tail _ (.head _)))) hri hrl hdot hg0 hg1 hgd
  · simp only [List.mem_cons] at hp ⊢
    rcases hp with h | h | h | h | h | h
    · rw [h]; exact .inr (.inr (.inr (.inr hcm)))
    · exact .inl h
    · exact .inr (.inl h)
    · exact .inr (.inr (.inl h))
    · exact .inr (.inr (.inr (.inl h)))
    · exact .inr (.inr (.inr (.inr (offA_mem.mp h).1)))
  · have h1 := N3h _ hmr
    have h2 := N3h _ hcm
    dsimp only at e h1 h2
    rw [e, h2] at h1; cases h1; cases hcd
theorem lj_step {h₀ : Heap} {L cm Nl : Addr} {m : Str → Option Value} {oc : Obj} {nvs : List Value} {ns : List Int} {x : Str} (hn : IntsAre nvs ns) {G : Value → Addr → Obj → Addr → Obj → Addr → (Str → Option Value) → Heap → Nat → (Value → Shared → Prop) → Prop}
    (k : ∀ n t I oI C oC D m₂ h tk E' qs30 qs37 qs58 W, n ∈ ns → NsObj oC m₂ → m₂ x = some (.int n t) → Fr h₀ L h m → News h₀ L h ((I, oI) :: (C, oC) :: (D, lst []) :: (cm, oc) :: (Nl, listOf (List.toArray nvs) 0) :: (30, tabObj qs30) :: (37, tabObj qs37) :: W) →
      Off3 I C D ((cm, oc) :: (Nl, listOf (List.toArray nvs) 0) :: (30, tabObj qs30) :: (37, tabObj qs37) :: W) → ((@Ne Nat I C) ∧ (@Ne Nat I D) ∧ (@Ne Nat C D)) → T30 qs30 W → T37 qs37 W → (58, tabObj qs58) ∈ W → (∀ p ∈ W, p.1 ≠ cm ∧ p.1 ≠ Nl ∧ p.1 ≠ 30 ∧ p.1 ≠ 37) → G (.int n t) I oI C oC D m₂ h tk E') :
    ∀ (i : Nat) v I oI C oC D m₂ h tk (E' : Value → Shared → Prop) news, (List.toArray nvs)[i]? = some v → NsObj oC m₂ → m₂ x = some v → Fr h₀ L h m → News h₀ L h ((I, oI) :: (C, oC) :: (D, lst []) :: news) → Off3 I C D news → ((@Ne Nat I C) ∧ (@Ne Nat I D) ∧ (@Ne Nat C D)) → LJ cm Nl oc nvs news → G v I oI C oC D m₂ h tk E' := by
  rintro i v I oI C oC D m₂ h tk E' _ hv hC hx F N off ne ⟨qs30, qs37, qs58, W, rfl, a, b, c, d⟩
  obtain ⟨n, t, rfl, hnn⟩ := ints_get hn (by simpa using hv)
  exact k n t I oI C oC D m₂ h tk E' qs30 qs37 qs58 W (List.mem_of_getElem? hnn) hC hx F N off ne a b c d
theorem lj_fin {cm Nl : Addr} {oc : Obj} {nvs : List Value} {G : List (Addr × Obj) → Prop}
    (k : ∀ qs30 qs37 qs58 W, T30 qs30 W → T37 qs37 W → (58, tabObj qs58) ∈ W → (∀ p ∈ W, p.1 ≠ cm ∧ p.1 ≠ Nl ∧ p.1 ≠ 30 ∧ p.1 ≠ 37) → G ((cm, oc) :: (Nl, listOf (List.toArray nvs) 0) :: (30, tabObj qs30) :: (37, tabObj qs37) :: W)) : ∀ news, LJ cm Nl oc nvs news → G news := by
  rintro _ ⟨qs30, qs37, qs58, W, rfl, a, b, c, d⟩
  exact k _ _ _ _ a b c d
theorem lj_end {h₀ h' : Heap} {L cm Nl I C D D' : Addr} {m : Str → Option Value} {oc oI oC oD' : Obj} {nvs : List Value} {qs30 qs37 ps30 ps37 ps58 : Array Value} {W W' : List (Addr × Obj)} {s : Shared} {tk : Nat} {its : Array Value} (_h : its = List.toArray nvs) (F : Fr h₀ L h' m)
    (N : News h₀ L h' ((D', oD') :: (I, oI) :: (C, oC) :: (D, lst []) :: (cm, oc) :: (Nl, listOf (List.toArray nvs) 0) :: (30, tabObj qs30) :: (37, tabObj qs37) :: W')) (off : Off3 I C D ((cm, oc) :: (Nl, listOf (List.toArray nvs) 0) :: (30, tabObj ps30) :: (37, tabObj ps37) :: W))
    (hG : Grow [(I, oI), (C, oC), (D, lst []), (cm, oc), (Nl, listOf (List.toArray nvs) 0)] W W') (a : T30 qs30 W') (b : T37 qs37 W') (c : (58, tabObj ps58) ∈ W) (d : ∀ p ∈ W, p.1 ≠ cm ∧ p.1 ≠ Nl ∧ p.1 ≠ 30 ∧ p.1 ≠ 37) (e : ∀ p ∈ W', p.1 ≠ 30 ∧ p.1 ≠ 37) :
    FiltEnd h₀ L m s I oI C oC D (SrcAt h₀ Nl its) (LJ cm Nl oc nvs) false { s with heap := h', toks := tk } := by
  subst _h
  have o := Off3.mem off
  have ow : ∀ x ∈ [(I, oI), (C, oC), (D, lst []), (cm, oc), (Nl, listOf (List.toArray nvs) 0)], (∀ p ∈ W, p.1 ≠ x.1) → ∀ p ∈ W', p.1 ≠ x.1 := fun x hx ho => hG.off hx ho
  have oW := fun p (hp : p ∈ W) => o p (.tail _ (.tail _ (.tail _ (.tail _ hp))))
  refine ⟨rfl, _, _, (cm, oc) :: (Nl, listOf (List.toArray nvs) 0) :: (30, tabObj qs30) :: (37, tabObj qs37) :: W', rfl, F, fun p hp => N p (.tail _ hp), Off3.of fun p hp => ?_, .inr ⟨_, .tail _ (.head _), rfl, _, rfl⟩, qs30, qs37, ps58, W', rfl, a, b, hG.1 _ c,
    fun p hp => ⟨ow (cm, oc) (by simp) (fun q hq => (d q hq).1) p hp, ow (Nl, listOf (List.toArray nvs) 0) (by simp) (fun q hq => (d q hq).2.1) p hp, e p hp⟩⟩
  simp only [List.mem_cons] at hp
  rcases hp with rfl | rfl | rfl | rfl | hp
  · exact o (cm, oc) (.head _)
  · exact o (Nl, listOf (List.toArray nvs) 0) (.tail _ (.head _))
  · exact o (30, tabObj ps30) (.tail _ (.tail _ (.head _)))
  · exact o (37, tabObj ps37) (.tail _ (.tail _ (.tail _ (.head _))))
  · exact ⟨ow (I, oI) (by simp) (fun q hq => (oW q hq).1) p hp, ow (C, oC) (by simp) (fun q hq => (oW q hq).2.1) p hp, ow (D, lst []) (by simp) (fun q hq => (oW q hq).2.2) p hp⟩
theorem lj_call {h₀ h : Heap} {L : Addr} {I C D c n x30 x37 : Addr × Obj} {W : List (Addr × Obj)} (N : News h₀ L h (I :: C :: D :: c :: n :: x30 :: x37 :: W)) : News h₀ L h (x30 :: x37 :: ([I, C, D, c, n] ++ W)) := fun p hp => N p (by
  simp only [List.mem_cons, List.mem_append, List.not_mem_nil, or_false] at hp ⊢
  rcases hp with h | h | (h | h | h | h | h) | h <;> simp [h])
theorem lj_back {h₀ h : Heap} {L : Addr} {I C D c n x30 x37 : Addr × Obj} {W : List (Addr × Obj)} (N : News h₀ L h (x30 :: x37 :: ([I, C, D, c, n] ++ W))) : News h₀ L h (I :: C :: D :: c :: n :: x30 :: x37 :: W) := fun p hp => N p (by
  simp only [List.mem_cons, List.cons_append, List.nil_append] at hp ⊢
  rcases hp with h | h | h | h | h | h | h | h <;> simp [h])
theorem lj_red {h₀ h : Heap} {L : Addr} {a b c n x30 x37 : Addr × Obj} {W : List (Addr × Obj)} (N : News h₀ L h (a :: b :: c :: n :: x30 :: x37 :: W)) : News h₀ L h (x30 :: x37 :: c :: n :: W) := fun p hp => N p (by
  simp only [List.mem_cons] at hp ⊢
  rcases hp with h | h | h | h | h <;> simp [h])
theorem red_use {h₀ : Heap} {L : Addr} {m : Str → Option Value} {W : List (Addr × Obj)} {ns row : List Int} {g : Int} (h1 : dot row ns = g) (h2 : ∀ n ∈ ns, g ∣ n) (h3 : 0 < g) {G : Value → Heap → Nat → Prop}
    (k : ∀ tg rs30 rs37 W9 h' tk', Fr h₀ L h' m → News h₀ L h' ((30, tabObj rs30) :: (37, tabObj rs37) :: W9) → (∀ p ∈ W, p ∈ W9) → G (.int g tg) h' tk') :
    ∀ r news' h' tk', Fr h₀ L h' m → News h₀ L h' news' → RetG [] W (fun r => ∃ g t, r = .int g t ∧ 0 < g ∧ g < 2 ^ 20 ∧ ∀ d, d ∣ g ↔ ∀ n ∈ ns, d ∣ n) r news' → G r h' tk' := by
  rintro r news' h' tk' F N ⟨rs30, rs37, W9, rfl, _, _, hG9, _, g2, tg2, rfl, hg20, hg21, hgd2⟩
  obtain rfl : g2 = g := gcd_same h1 h2 h3 hg20 hgd2
  exact k _ _ _ _ _ _ F N hG9.1
theorem law1T (w : World) (S : Addr) (sc ps : List Value) (xs : List Int)
   (hp : (slicePick sc.toArray none (some 2) none).toList = ps) (hps : IntsAre ps xs) (hpl : xs.length ≤ 2) (hls : sc.toArray.size ≤ sizeLine)
   (p : Program) (loose : List Str) (mean : ExcName → Option Value) (mg mb : Str → Option Value) (s : Shared) (gg : Heap) (R : Result → Shared → Prop) (n : Nat) (Z : s.heap.objs.size = n) (hn : n = 126) (hgens : s.gens = #[]) (ZP : Heap → Prop) (HT : TopZ ZP gg)
   (hg : ∀ b o, gg.get? b = some o → s.heap.get? b = some o) (hgs : gg.objs.size = s.heap.objs.size) (hScr : gg.IsList S sc.toArray)
   (HZ : ∀ (gd : Option (List Code)) (cn : Str) (cs : Scope) (a : Addr) (ccd : Value) (cl : List (Str × Addr)) (outer : List Env) (L : Addr) (s : Shared) (Q E : Value → Shared → Prop), ZP s.heap → s.gens = #[] → s.heap.objs.size = 141 → ZH1 w s Q →
     wpAny (model PySem.Challenge.rw_nq0126_01.row.prog w) (ktrTop 303 10 gd cn cs L a ccd cl outer) (call (.ref 63) [.ref 107]) Q E s)
   : CodeHd gg 34 30 → CodeHd gg 41 37 → CodeHd gg 62 58 → (hd1.heap_39 w.params).In gg → (∀ q ∈ [(30, tabObj #[]), (37, tabObj #[]), (58, tabObj #[])], s.heap.get? q.1 = some q.2 ∧ gg.get? q.1 = none) → Top p loose mean mg mb gg →
    (∀ L' h' tk' m' rs30 rs37 rs58, Fr gg L' h' m' → h'.get? 30 = some (tabObj rs30) → h'.get? 37 = some (tabObj rs37) → h'.get? 58 = some (tabObj rs58) → R (.ok (.ret (.bool true))) { s with heap := h', toks := tk' }) →
    codeAny (model PySem.Challenge.rw_nq0126_01.row.prog w) callerA (.call (.ref 124) ⟨[.ref S], []⟩) R s := by
  have hpsl : ps.length = xs.length := hps.length
  k_fill
  intro C1 C2 C3 X NN T hret
  k_dflt (refine' codeDefTop (c := 2) hg hgs ?k3 NN ?k5 ?kZ ?k6 ?k7 ?k8 ?k9 ?kB ?kD ?kc ?_ ?c2 ?c3 ?c4; (case kZ => assumption); (case k3 => exact X); (case k5 => exact T); (case k6 => k_is); (case k7 => k_is); (case k8 => decide); (case k9 => exact BindsTo.of_eq rfl); (case kB => exact rfl); (case kD => decide +kernel); (case kc => decide +kernel); (case c2 => exact rfl); (case c3 => exact rfl); (case c4 => exact rfl); intro L' h' tk' cells' F' N' Y' l1 Z'; (try k_lt l1); k_cells Y'; (try simp only [List.cons_append, List.nil_append] at N'); (try dsimp only))
  have B' : Below callerA gg [] gg := below_caller gg
  (try k_fold)
  w_strict k_steps
  unfold Stop
  refine SrcZ.ledger (by rfl) (by k_asm) (by k_asm) (by assumption) (by k_mem) (by rw [List.size_toArray, sizeLine_eq]; omega) ?_
  intro g1
  refine comp_indZ (fun j => numF (xs.getD j 0)) (.inr ⟨_, .head _, rfl, _, rfl⟩) ?step _ _ 0 [] [] .nil ?fin
  case step =>
    rintro j ys v I2 oI2 C2' oC D2 m₂ h₂ tk₂ E2 hv hC hx2 F2 N2 off ne2
    simp only [LCg.Off3, and_true] at off
    have hjl : j < xs.length := by
      have := (Array.getElem?_eq_some_iff.mp hv).1
      rw [List.size_toArray] at this; omega
    obtain ⟨tv, hvi⟩ := ints_all hps hjl
    obtain rfl : v = .int (xs.getD j 0) tv := by rw [List.getElem?_toArray] at hv; rw [hvi] at hv; exact (Option.some.inj hv).symm
    w_strict k_steps
    unfold Stop
    exact ⟨_, _, rfl, rfl⟩
  case fin =>
    intro vs hvs
    have e : ([] : List Int) ++ (List.range' 0 ps.toArray.size).map (fun j => numF (xs.getD j 0)) = xs.map numF := by
      rw [List.size_toArray, hpsl]
      apply List.ext_getElem?
      intro i
      simp only [List.nil_append, List.getElem?_map]
      by_cases hi : i < xs.length
      · rw [List.getElem?_range' (by omega)]; simp [hi, List.getD]
      · rw [List.getElem?_eq_none (by simp; omega), List.getElem?_eq_none (by omega)]; rfl
    rw [e] at hvs
    clear e
    unfold FinZ
    intro D1 h1 tk1 F1 N1 o1 Z1
    simp only [LCg.Off1, and_true] at o1
    dsimp only
    w_strict k_steps
    unfold Stop
    have hvl : vs.length = xs.length := by have := hvs.length; simpa using this
    refine addZ (vs := []) (ws := []) (its := vs.toArray) (by k_asm) (by k_asm) (by assumption) (by kmk_list) (by kmk_list) rfl ?_ (by show vs.length + 4 ≤ sizeLine; rw [sizeLine_eq]; omega)
    intro Nl h2 F2 N2 l2 Z2
    k_lt l2
    dsimp only
    w_strict k_steps
    unfold Stop
    (with_reducible rename News _ _ _ _ => N7)
    (with_reducible rename Fr _ _ _ _ => F7)
    (with_reducible rename Array.size _ = _ => Z7)
    have NP := lawPick2 N7
    have hNl : 58 < Nl := l2.2.2.2.2.2.2
    have hnl : (numsOf xs).length = xs.length + 4 := by simp [numsOf]
    k_dflt (refine' lawHeap w Nl _ (numsOf xs) 0 _ (nums_ints hvs _ _ _ _) ?a1 ?a2 _ _ _ _ _ _ _ _ _ _ _ _ _ _ _ _ _ _ _ _ _ _ _ Z7 ?a3 ?a4 ZP ?a5 ?a6 ?a7 ?a8 ?a9 ?b1 ?b2 (by exact HZ) ?k1 ?c1 ?c2 ?c3 ?k2 ?k3 NP ?k5 ?kK ?kd ?ku ?_; (case k1 => k_asm); (case k2 => k_asm); (case k3 => k_asm); (case k5 => k_asm); (case kK => first | exact rfl | assumption))
    (case a1 => omega)
    (case a2 => omega)
    (case a3 => omega)
    (case a4 => exact hgens)
    (case a5 => exact HT)
    (case a6 =>
      intro q hq
      rw [List.mem_singleton.mp hq]
      refine ⟨neN ?_, neN ?_, neN ?_, neN ?_⟩ <;> ((try dsimp only); omega))
    (case a7 => exact neN (by omega))
    (case a8 => exact neN (by omega))
    (case a9 => exact numsOf_ok xs)
    (case b1 => intro e; rw [e] at hnl; simp at hnl)
    (case b2 => exact neN (by omega))
    (case c1 => assumption)
    (case c2 => assumption)
    (case c3 => assumption)
    (case kd => first | (dsimp only [ktrTop]; omega) | decide)
    (case ku => first | (dsimp only [ktrTop]; omega) | decide)
    refine hret_use (nums_ints hvs _ _ _ _) (by assumption) (neN (by omega)) ?_
    intro nvs t g tg rr rvs rc row ps30 ps37 ps58 W3 h3 tk3 hnums F3 N4 hT30' hT37' h58' hW3 hmr' hct hNt h30t h37t hri hrl hdot hg0 hg1 hgd
    replace hct := ltN hct
    replace hNt := ltN hNt
    replace h30t := ltN h30t
    replace h37t := ltN h37t
    clear NP N7
    have hcd := ‹Obj.data _ = Data.cell _›
    dsimp only
    w_strict k_steps
    (with_reducible rename News _ _ _ _ => N5)
    (with_reducible rename Fr _ _ _ _ => F5)
    have hrest : ∀ p ∈ (t, tupO #[.bool true, .int g tg, .ref rr]) :: (Nl, listOf (List.toArray nvs) 0) :: (30, tabObj ps30) :: (37, tabObj ps37) :: W3, p.1 ≠ L' + 1 := fun p hp => by
      simp only [List.mem_cons] at hp
      rcases hp with rfl | rfl | rfl | rfl | hp
      · refine neN ?_; (try dsimp only); omega
      · refine neN ?_; (try dsimp only); omega
      · refine neN ?_; (try dsimp only); omega
      · refine neN ?_; (try dsimp only); omega
      · exact (hW3 p hp).1
    refine storeX_C F5 N5 rfl (.head hrest) hcd ?_
    intro hk ok Fk Nk dk
    (try dsimp only at Nk)
    have hNm : numsOf xs ≠ [] := by intro e; rw [e] at hnl; simp at hnl
    w_strict k_steps
    unfold Stop
    k_dflt (refine zip_comp (by k_asm) (by rfl) (by decide) (by rfl) (by decide) (by rfl) (by rfl) (by decide) ?z8)
    case z8 =>
      w_strict k_steps
      unfold Stop
      (with_reducible rename News _ _ _ _ => N8)
      (with_reducible rename Fr _ _ _ _ => F8)
      refine zsrc_call (xs := rvs) (ys := nvs) (ns := row) (ms := numsOf xs) (f := fun a b => a * b) (by rfl) ⟨_, (N8 _ (.tail _ (.tail _ (.tail _ (.tail _ (.tail _ hmr')))))).1, rfl, _, rfl⟩ ⟨_, (N8 _ (.tail _ (.tail _ (.head _)))).1, rfl, _, rfl⟩ hri hnums hrl (by rw [sizeLine_eq]; omega) F8 N8 ?zstep ?zfin
      case zstep =>
        intro gz a9 b9 ta9 tb9 C9 oC9 m9 h9' tk9' E9 hmem9 hC9 ha9 hb9 Fz Nz offz
        have hb9' := numsOf_ok xs b9 hmem9.2
        have hb90 := hb9'.1
        have hb91 := hb9'.2
        dsimp only
        w_strict k_steps
        unfold Stop
        exact ⟨_, _, rfl, rfl⟩
      case zfin =>
        intro gz Dr rs hr tkr hrs Frr Nrr offr hDr hkr
        have hdot' : (List.zipWith (fun a b => a * b) row (numsOf xs)).sum = g := hdot
        dsimp only
        w_strict k_steps
        · exfalso; omega
        unfold Stop
        (with_reducible rename News _ _ _ _ => N9)
        (with_reducible rename Fr _ _ _ _ => F9)
        have N9' : News gg L' _ ((L' + 1, ok) :: (Nl, listOf (List.toArray nvs) 0) :: (30, tabObj ps30) :: (37, tabObj ps37) :: W3) := fun p hp => N9 p (by
          simp only [List.mem_cons] at hp ⊢
          rcases hp with h | h | h | h | h <;> simp [h])
        clear N9
        k_dflt (refine LCt.ListComp_T (F₀ := by k_asm) (by with_unfolding_all rfl) (by decide) (by rfl) (by decide) (by rfl) ?_)
        w_strict k_steps
        unfold Stop
        (with_reducible rename News _ _ _ _ => N9)
        (with_reducible rename Fr _ _ _ _ => F9)
        have hnvl : nvs.length = (numsOf xs).length := hnums.length
        refine LCt.CompSrcT.ledger (by rfl) F9 N9 (.tail _ (.head _)) (by rw [List.size_toArray, sizeLine_eq]; omega) ?_
        intro g9
        refine filt_ind (LJ (L' + 1) Nl ok nvs) ?fstep ?ffin _ 0 _ ⟨ps30, ps37, ps58, W3, rfl, hT30', hT37', h58', hW3⟩
        case fstep =>
          refine lj_step hnums ?_
          intro nn tn I oI C oC D m₂ hq tkq E' qs30 qs37 qs58 W4 hnm hC hx Fq Nq offq neq hU30 hU37 hU58 hW4
          have offq0 := offq
          simp only [LCg.Off3, and_true] at offq
          have hnk := numsOf_ok xs nn hnm
          have hnd := fdiv_zero (hgd nn hnm)
          w_strict k_steps
          unfold Stop
          (with_reducible rename News _ _ _ _ => Nz)
          have Nz' := lj_call Nz
          have hWa : ∀ p ∈ [(I, oI), (C, oC), (D, LCg.lst []), (L' + 1, ok), (Nl, listOf (List.toArray nvs) 0)], p.1 ≠ 30 ∧ p.1 ≠ 37 := fun p hp => by
            simp only [List.mem_cons, List.not_mem_nil, or_false] at hp
            rcases hp with rfl | rfl | rfl | rfl | rfl
            · exact ⟨Ne.symm offq.2.2.1.1, Ne.symm offq.2.2.2.1.1⟩
            · exact ⟨Ne.symm offq.2.2.1.2.1, Ne.symm offq.2.2.2.1.2.1⟩
            · exact ⟨Ne.symm offq.2.2.1.2.2, Ne.symm offq.2.2.2.1.2.2⟩
            · exact ⟨neN (by omega), neN (by omega)⟩
            · exact ⟨neN (by omega), neN (by omega)⟩
          k_dflt (refine' idm_pos w _ qs30 qs37 nn g _ _ ?p1 ?p2 ?p3 ?p4 ?p5 ?p6 ?p7 ?p8 _ _ _ _ _ _ _ _ _ _ _ _ _ _ _ _ _ _ _ _ _ _ ?k1 ?c1 ?c2 ?c3 ?k2 ?k3 Nz' ?k5 ?kK ?kd ?ku ?_; (case k1 => k_asm); (case k2 => k_asm); (case k3 => k_asm); (case k5 => k_asm); (case kK => first | exact rfl | assumption))
          (case p1 => omega)
          (case p2 => omega)
          (case p3 => omega)
          (case p4 => omega)
          (case p5 => exact t30_mono hU30 fun p hp => List.mem_append_right _ hp)
          (case p6 => exact t37_mono hU37 fun p hp => List.mem_append_right _ hp)
          (case p7 => exact fun p hp => (List.mem_append.mp hp).elim (fun q => (hWa p q).1) fun q => (hW4 p q).2.2.1)
          (case p8 => exact fun p hp => (List.mem_append.mp hp).elim (fun q => (hWa p q).2) fun q => (hW4 p q).2.2.2)
          (case c1 => assumption)
          (case c2 => assumption)
          (case c3 => assumption)
          (case kd => first | (dsimp only [ktrTop]; omega) | decide)
          (case ku => first | (dsimp only [ktrTop]; omega) | decide)
          refine retQ_use hU30 hU37 (fun p hp => (hW4 p hp).2.2) ?_
          intro qs30' qs37' W5 t5 t51 t52 h9 tk9 F9' N5' hV30 hV37 hG5 hW5 hmt
          rw [hnd] at hmt
          have N6' := lj_back N5'
          clear Nz Nz' N5'
          dsimp only
          w_strict k_steps
          unfold Stop
          (with_reducible rename News _ _ _ _ => Nq9)
          exact lj_end rfl (by k_asm) Nq9 offq0 hG5 hV30 hV37 hU58 hW4 hW5
        case ffin =>
          refine lj_fin ?_
          intro qs30 qs37 qs58 W4 hU30 hU37 hU58 hW4
          unfold LCg.FinE
          intro Df hf tkf Ff Nf of
          simp only [LCg.Off1, and_true] at of
          dsimp only
          w_strict k_steps
          unfold Stop
          (with_reducible rename News _ _ _ _ => Nr)
          have Nr' := lj_red Nr
          k_dflt (refine' reduce1 w ((L' + 1, ok) :: (Nl, listOf (List.toArray nvs) 0) :: W4) qs30 qs37 Nl nvs (numsOf xs) 0 (.tail _ (.head _)) hnums hNm (numsOf_ok xs) ?p5 ?p6 ?p7 _ _ _ _ _ _ _ _ _ _ _ _ _ _ _ _ _ _ _ _ _ _ ?k1 ?c1 ?c2 ?c3 ?k2 ?k3 Nr' ?k5 ?kK ?kd ?ku ?_; (case k1 => k_asm); (case k2 => k_asm); (case k3 => k_asm); (case k5 => k_asm); (case kK => first | exact rfl | assumption))
          (case p5 => exact t30_mono hU30 fun p hp => .tail _ (.tail _ hp))
          (case p6 => exact t37_mono hU37 fun p hp => .tail _ (.tail _ hp))
          (case p7 =>
            intro p hp
            simp only [List.mem_cons] at hp
            rcases hp with rfl | rfl | hp
            · exact ⟨neN (by omega), neN (by omega)⟩
            · exact ⟨neN (by omega), neN (by omega)⟩
            · exact (hW4 p hp).2.2)
          (case c1 => assumption)
          (case c2 => assumption)
          (case c3 => assumption)
          (case kd => first | (dsimp only [ktrTop]; omega) | decide)
          (case ku => first | (dsimp only [ktrTop]; omega) | decide)
          refine red_use hdot hgd hg0 ?_
          intro tg2 rs30 rs37 W9 h10 tk10 F10 N10 hG9
          have h58f : (58, tabObj qs58) ∈ W9 := hG9 _ (.tail _ (.tail _ hU58))
          have hcell9 : (L' + 1, ok) ∈ W9 := hG9 _ (.head _)
          clear Nr Nr'
          dsimp only
          w_strict k_steps
          have hgg : (g == g) = true := by simp
          rw [hgg]
          (with_reducible rename News _ _ _ _ => Nf9)
          exact hret _ _ _ _ rs30 rs37 qs58 (by k_asm) (Nf9 _ (.head _)).1 (Nf9 _ (.tail _ (.head _))).1 (Nf9 _ (.tail _ (.tail _ h58f))).1
end Mine
end SecLT
theorem Mine.offMA : True := by
  w_top off
  k_with_none
  trivial
open PySem PySem.W PySem.W.X PySem.W.ZRun PyProof.Rows PySem.Spec PySem.Calls
set_option maxRecDepth 100000
set_option maxHeartbeats 0
namespace Mine
noncomputable def gO (K : Frag) (f : Addr) : Obj := match K.lookup f with | some o => o | none => ⟨.none, none, .plain, #[]⟩
noncomputable def gV (K : Frag) (f : Addr) (p : FuncData → Value) : Value := match (gO K f).data with | .func fd => p fd | _ => .none
noncomputable def gS (K : Frag) (f : Addr) (p : FuncData → Str) : Str := match (gO K f).data with | .func fd => p fd | _ => Str.ofString ""
noncomputable def aAt (P : Params) (i : Nat) : Arguments := match fnAt P i with | some (a, _, _) => a | none => default
noncomputable def bAt (P : Params) (i : Nat) : List Stmt := match fnAt P i with | some (_, b, _) => b | none => []
noncomputable def sAt (P : Params) (i : Nat) : Scope := match fnAt P i with | some (_, _, s) => s | none => default
theorem fnI_of {P : Params} {K : Frag} {f : Addr} {i : Nat} (h1 : fnAt P i = some (aAt P i, bAt P i, sAt P i))
    (h2 : K.lookup f = some ⟨(gO K f).cls, (gO K f).dict, .func (fnX (gS K f (·.name)) (gS K f (·.qualname)) (aAt P i) (bAt P i) (sAt P i) [] .none .none (gV K f (·.doc)) (gV K f (·.pyModule)) none (gV K f (·.code)) (gV K f (·.closureTuple))), (gO K f).slots⟩)
    (h3 : codeIn K (gV K f (·.code)) (gS K f (·.qualname)) = true) : ∃ a b sc nm q doc pm cdv ct oc od osl, FnI0 P K f i a b sc nm q doc pm cdv ct oc od osl := ⟨_, _, _, _, _, _, _, _, _, _, _, _, ⟨h1, h2, h3⟩⟩
theorem fnX_of {P : Params} {K : Frag} {f : Addr} {i : Nat} {cel : Addr} (h1 : fnAt P i = some (aAt P i, bAt P i, sAt P i))
    (h2 : K.lookup f = some ⟨(gO K f).cls, (gO K f).dict, .func (fnX (gS K f (·.name)) (gS K f (·.qualname)) (aAt P i) (bAt P i) (sAt P i) [(Str.ofString "mycmp", cel)] .none .none (gV K f (·.doc)) (gV K f (·.pyModule)) none (gV K f (·.code)) (gV K f (·.closureTuple))), (gO K f).slots⟩)
    (h3 : codeIn K (gV K f (·.code)) (gS K f (·.qualname)) = true) : ∃ a b sc nm q doc pm cdv ct oc od osl, FnIs P K f i cel a b sc nm q doc pm cdv ct oc od osl := ⟨_, _, _, _, _, _, _, _, _, _, _, _, ⟨h1, h2, h3⟩⟩
noncomputable def fragZ (n : Nat) (T : BT) : Frag := [1, 15, 16, 23, 24, 39, 40, 59, 60, 61].filterMap fun i => (T.get i).map fun o => (n + i, o)
theorem fragZ_mem {V : XV} {h : Heap} {T : BT} {m : Nat} {ch : Ch} (D : Rep V h T m ch) {n : Nat} (e : V.n₁ = n) : ∀ p ∈ fragZ n T, h.get? p.1 = some p.2 ∧ n ≤ p.1 := fun p hp => by
  obtain ⟨i, _, hi⟩ := List.mem_filterMap.mp hp
  cases q : T.get i with
  | none => rw [q] at hi; cases hi
  | some x => rw [q] at hi; cases hi; exact ⟨e ▸ (D.own i _ q).2, Nat.le_add_right _ _⟩
theorem zhook1 {w : World} {s : Shared} {Q : Value → Shared → Prop} (H : ZH1 w s Q) {v : Value} {S' : Shared} {V : XV} {T : BT} {m : Nat} {ch : Ch} {vs : Array Value} (D : Rep V S'.heap T m ch) (e1 : V.h₀ = s.heap) (e2 : V.n₁ = 141) (ev : v = .ref 201)
    (ec : ch = [(58, vs)]) (eg : S'.gens = s.gens) (ed : S'.drawn = s.drawn) (eo : S'.os = s.os) (kc : KC w.params (fragZ 141 T ++ hd1.heap_39 w.params) 201 202 157 165 181 142 107) : Q v S' := by
  subst ev
  have hl : ∀ b, chLook ch b = if 58 = b then some vs else none := fun b => by rw [ec]; exact (chPut_look [] 58 vs b)
  exact H S' (fragZ 141 T) kc (fragZ_mem D e2) (fun b o e ne => D.keep b o (e1 ▸ e) (by rw [hl, if_neg (Ne.symm ne)])) ⟨vs, (D.ch 58 vs (by rw [hl, if_pos rfl])).1⟩ eg ed eo
local macro_rules | `(tactic| exfalso) => `(tactic| exact zhook1 (by assumption) (by assumption) (by rfl) (by rfl) (by rfl) (by rfl) (by first | rfl | exact (‹Shared.gens _ = #[]›).symm) (by rfl) (by rfl)
  { made := by kernel_rfl, keep := by kernel_rfl, init := by kernel_rfl, initF := by kernel_rfl, lt := by kernel_rfl, ltF := by kernel_rfl, eq := by kernel_rfl, eqF := by kernel_rfl, pg := by kernel_rfl, ic := by kernel_rfl, fo := by kernel_rfl, sg := by kernel_rfl, tk := by kernel_rfl, sl := by kernel_rfl, sa := by kernel_rfl, po := by kernel_rfl, ta := by kernel_rfl, ty := by kernel_rfl, cell := by kernel_rfl,
    fnI := fnI_of (by kernel_rfl) (by kernel_rfl) (by kernel_rfl), fnL := fnX_of (by kernel_rfl) (by kernel_rfl) (by kernel_rfl), fnE := fnX_of (by kernel_rfl) (by kernel_rfl) (by kernel_rfl) })
local macro_rules | `(tactic| omega) => `(tactic| done)
theorem cmpz (w : World) (gd : Option (List Code)) (cn : Str) (cs : Scope) (a : Addr) (ccd : Value) (cl : List (Str × Addr)) (outer : List Env) (L : Addr) (s : Shared) (Q E : Value → Shared → Prop)
   (ZH : KT.Holds s.heap 1 0 (hdz1.ktop_287 w.params)) (hg : s.gens = #[]) (hs : s.heap.objs.size = 141)
   (hret : ZH1 w s Q) :
    wpAny (model PySem.Challenge.rw_nq0126_01.row.prog w) (ktrTop 303 10 gd cn cs L a ccd cl outer) (call (.ref 63) [.ref 107]) Q E s := by
  z_run
end Mine
namespace Mine
theorem holds_up {h h' : Heap} {kt : KT} (k : ∀ b o, h.get? b = some o → h'.get? b = some o) (H : KT.Holds h 1 0 kt) : KT.Holds h' 1 0 kt := KT.Holds.keeps k H
theorem fragSub {P : Params} {h : Heap} (X : (hdz1.heap_163 P).In h) : (hd1.heap_39 P).In h := fun b o e => by
  have hr : ((hd1.heap_39 P).map fun p => (hdz1.heap_163 P).lookup p.1) = ((hd1.heap_39 P).map fun p => some p.2) := by kernel_rfl
  have hm := mem_of_lookupK e
  have key : ∀ (l : Frag), (l.map fun p => (hdz1.heap_163 P).lookup p.1) = (l.map fun p => some p.2) → ∀ q ∈ l, (hdz1.heap_163 P).lookup q.1 = some q.2 := fun l => by
    induction l with
    | nil => intro _ q hq; cases hq
    | cons a r ih =>
      intro hl q hq
      simp only [List.map_cons, List.cons.injEq] at hl
      rcases List.mem_cons.mp hq with rfl | hq
      · exact hl.1
      · exact ih hl.2 q hq
  exact X _ _ (key _ hr _ hm)
end Mine
section
open PySem.W.X PySem.W.ZRun Mine
set_option maxRecDepth 100000 in
theorem PySem.Challenge.cw_nq0126_01_holds : PySem.Challenge.rw_nq0126_01.Holds := by
  refine hdz1 ?_
  k_fill
  intro w s₀ s₁ mg mb G y fa o pm cd doc dV kV ho hd hcd hD hmg hg args vals as L hpre hlay hrd hwl hlo
  z_open y L KX ZH ZN ZT
  refine Ground.open G ?_
  intro T B D TE TW
  wrow_args hpre hlay hrd hwl hlo
  obtain ⟨hat, hsz⟩ := script_at L
  have htk := script_toks L ZT
  rw [ZN] at hat hsz
  subst hat
  x_fa T KX hmg
  (with_reducible rename IntsAre _ _ => hI)
  (with_reducible rename Heap.IsList _ _ _ => hL)
  have X1 := fragSub KX
  have hT : TabsAt [(34, 30), (41, 37), (62, 58)] s₁.heap := fun q hq => by
    simp only [List.mem_cons, List.not_mem_nil, or_false] at hq
    rcases hq with rfl | rfl | rfl
    · exact tab_of (x := Str.ofString "_int2digits") T KX (by rfl) (by kernel_rfl)
    · exact tab_of (x := Str.ofString "_digits2int") T KX (by rfl) (by kernel_rfl)
    · exact tab_of (x := Str.ofString "cmp_to_key") T KX (by rfl) (by kernel_rfl)
  have T' := ghost_top hT T
  have X' := ghost_K hT X1 (by kernel_rfl)
  obtain ⟨C1, C2, C3, _⟩ := ghost_code hT
  have hlen := hI.length
  refine enter_call ?_
  refine kn_post (tabs := [(34, 30), (41, 37), (62, 58)]) hT (fun _ _ => rfl) ?_
  refine law1T w 125 _ _ _ rfl (kmk_upto hI (by decide : (0 : Int) ≤ 2)) (List.length_take_le _ _) (by rw [List.size_toArray, sizeLine_eq]; omega) _ _ _ _ _ s₁ (ghostOf s₁.heap [(34, 30), (41, 37), (62, 58)]) _ 126 hsz rfl L.gens (fun h => KT.Holds h 1 0 (hdz1.ktop_287 w.params)) ?HT (fun b o e => of_hideAll _ e) (hideAll_size _ _) (ghost_list hT hL)
    (fun gd cn cs a ccd cl outer L s Q E z g0 hs zh => cmpz w gd cn cs a ccd cl outer L s Q E z g0 hs zh) C1 C2 C3 X' ?NN T' ?fin
  case HT =>
    intro h' k h30 h37 h58
    refine KT.Holds.keeps (fun b o e => ?_) ZH
    by_cases hb : b ∈ [(34, 30), (41, 37), (62, 58)].map (fun q : Addr × Addr => q.2)
    · obtain ⟨q, hq, rfl⟩ := List.mem_map.mp hb
      have := (hT q hq).2
      rw [e] at this
      cases this
      simp only [List.mem_cons, List.not_mem_nil, or_false] at hq
      rcases hq with rfl | rfl | rfl
      · exact h30
      · exact h37
      · exact h58
    · exact k b o (ghost_ne e hb)
  case NN =>
    intro q hq
    simp only [List.mem_cons, List.not_mem_nil, or_false] at hq
    rcases hq with rfl | rfl | rfl
    · exact ⟨(hT (34, 30) (.head _)).2, hideAll_none _ (.head _)⟩
    · exact ⟨(hT (41, 37) (.tail _ (.head _))).2, hideAll_none _ (.tail _ (.head _))⟩
    · exact ⟨(hT (62, 58) (.tail _ (.tail _ (.head _)))).2, hideAll_none _ (.tail _ (.tail _ (.head _)))⟩
  case fin =>
    intro L' h' tk' m' rs30 rs37 rs58 F h30 h37 h58
    refine ⟨⟨.inl ⟨_, _, [], rfl, fun _ => rfl, ReadsW.bool true, ?_, fun _ => ⟨List.nodup_nil, fun _ hm => (nomatch hm)⟩⟩, F.keep, rfl, L.gens⟩, ⟨_, h30⟩, ⟨_, h37⟩, ⟨_, h58⟩, trivial⟩
    first | rfl | wrow_post
end
