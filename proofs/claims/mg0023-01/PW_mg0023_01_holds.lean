import PyProof.Rows.All
import Wide.All
import OpenK.AllK
import Wide.FinOn
import Lean
import PySem.Challenge.RW_mg0023_01
open PySem PySem.W PyProof.Rows PySem.Calls
set_option Elab.async false
set_option maxRecDepth 100000
set_option maxHeartbeats 8000000
section
open PySem PySem.W PyProof.Rows PySem.Calls
namespace Mine
theorem seq_cut {M : Model} {A : Around} {st : Stmt} {rest : List Stmt} {env : Env} {Q : Flow → Shared → Prop} {E : Value → Shared → Prop} {s : Shared} (R : Shared → Prop)
    (h1 : wpAny M A (exec st env) (fun f s' => f = .next ∧ R s') E s) (h2 : ∀ s', R s' → wpAny M A (execs rest env) Q E s') :
    wpAny M A (execs (st :: rest) env) Q E s := by
  refine wpAny_execs_cons (wpAny_mono h1 ?_ fun _ _ x => x)
  rintro f s' ⟨rfl, hR⟩
  exact h2 s' hR
theorem fr_eq {h₀ : Heap} {L : Addr} {h : Heap} {m m' : Str → Option Value} (F : Fr h₀ L h m) (e : ∀ y, m y = m' y) : Fr h₀ L h m' := by
  have : m = m' := funext e
  rw [← this]; exact F
theorem fr_over {h₀ : Heap} {L : Addr} {h : Heap} {m : Str → Option Value} (k : Str) {v : Value} (F : Fr h₀ L h m) (e : m k = some v) : Fr h₀ L h (fun y => if y = k then some v else m y) := by
  refine fr_eq F fun y => ?_
  by_cases hy : y = k
  · rw [if_pos hy, hy, e]
  · rw [if_neg hy]
/-- the end of a stretch: the statement went through, and R holds -/
structure Cut (R : Shared → Prop) (f : Flow) (s : Shared) : Prop where
  mk ::
  next : f = .next
  holds : R s
theorem cut {M : Model} {A : Around} {st : Stmt} {rest : List Stmt} {env : Env} {Q : Flow → Shared → Prop} {E : Value → Shared → Prop} {s : Shared} (R : Shared → Prop)
    (h1 : wpAny M A (exec st env) (Cut R) E s) (h2 : ∀ s', R s' → wpAny M A (execs rest env) Q E s') :
    wpAny M A (execs (st :: rest) env) Q E s :=
  seq_cut R (wpAny_mono h1 (fun _ _ h => ⟨h.next, h.holds⟩) fun _ _ x => x) h2
/-- the state behind a stretch: the frame and the ledger -/
def At (s₁ : Shared) (h₀ : Heap) (L : Addr) (m : Str → Option Value) (news : List (Addr × Obj)) (s : Shared) : Prop :=
  ∃ h tk, s = { s₁ with heap := h, toks := tk } ∧ Fr h₀ L h m ∧ News h₀ L h news
theorem At.intro {s₁ : Shared} {h₀ : Heap} {L : Addr} {m m' : Str → Option Value} {news news' : List (Addr × Obj)} {h : Heap} {tk : Nat} (F : Fr h₀ L h m) (N : News h₀ L h news) (e : ∀ y, m y = m' y) (hs : ∀ p ∈ news', p ∈ news) :
    At s₁ h₀ L m' news' { s₁ with heap := h, toks := tk } := ⟨h, tk, rfl, fr_eq F e, fun p hp => N p (hs p hp)⟩
end Mine
end
section
open PySem PySem.W PyProof.Rows PySem.Calls
namespace Mine
section
variable {M : Model} {A : Around} {E : Value → Shared → Prop} {s : Shared}
theorem iadd_seq {a b : Value} {T id : String} {Q : Value → Shared → Prop} (ha : s.TypeIs a T) (hb : s.TypeIs b T)
    (hi : typeLookup (.type T) (dunderI "add") = pure (some (.builtin id))) (his : isSeqSlot (some (.builtin id)) = true)
    (hfill : fillsNumberSlot (.type T) "add" = pure false)
    (hc : wpAny M A (call (.builtin id) [a, b]) Q E s) : wpAny M A (inplaceOp .Add a b) Q E s := by
  unfold inplaceOp
  refine wpAny_holding ?_
  have hfi : fillsInplaceSlot (.type T) "add" (Operator.Add == .Add) = pure false := by
    unfold fillsInplaceSlot
    show (typeLookup (.type T) (dunderI "add") >>= fun fi => pure (fi.isSome && !isSeqSlot fi)) = pure false
    rw [hi, pure_bind, his]; rfl
  refine wpAny_bind (wpAny_typeOf ha (wpAny_bind (wpAny_of_eq hfi ?_)))
  show wpAny M A (if false = true then _ else _) Q E s
  rw [if_neg Bool.false_ne_true]
  refine wpAny_bind (binaryOp1_none (nm := "add") ha hb hfill ?_)
  refine wpAny_bind (wpAny_of_eq (PySem.seqSlot_of hi his) ?_)
  exact wpAny_bind (wpAny_rule hc)
end
section
variable {prog : Program} {w : World} {A : Around} {E : Value → Shared → Prop} {s : Shared} {h₀ : Heap} {L D b : Addr} {m : Str → Option Value} {news news' : List (Addr × Obj)} {its its2 : List Value} {n n2 : Nat}
theorem my_iadd {Q : Value → Shared → Prop} (F : Fr h₀ L s.heap m) (N : News h₀ L s.heap news) (hb : (b, listOf its2.toArray n2) ∈ news)
    (hne : 0 < its2.length) (U : Upd D (listOf its.toArray n) (listOf (its ++ its2).toArray (n + 1)) news news')
    (hz : its.length + its2.length ≤ 1000)
    (h : ∀ h', Fr h₀ L h' m → News h₀ L h' news' → Q (.ref D) { s with heap := h' }) :
    wpAny (model prog w) A (inplaceOp .Add (.ref D) (.ref b)) Q E s := by
  have hsl : sizeLine = 2 ^ 24 := rfl
  have hz' : its.toArray.size + its2.toArray.size ≤ 1000 := by simpa using hz
  have hd : ¬(!its.toArray.isEmpty && Builtin.List.listTooLong (its.toArray.size + its2.toArray.size)) = true := by
    have : Builtin.List.listTooLong (its.toArray.size + its2.toArray.size) = false := by
      unfold Builtin.List.listTooLong; rw [decide_eq_false_iff_not]; omega
    rw [this]; simp
  have hbz := N _ hb
  obtain ⟨pre, post, rfl, rfl, a, c⟩ := U.split
  have z := N (D, listOf its.toArray n) (List.mem_append.mpr (.inr (.head _)))
  refine iadd_seq (T := "list") ⟨_, z.1, rfl⟩ ⟨_, hbz.1, rfl⟩ PySem.F.slot_list_iadd.lookup (by decide +kernel) PySem.noFill_list_add ?_
  refine call_meets PySem.F.slot_list_iadd ⟨_, z.1, rfl⟩ PySem.F.entry_list_iadd (PySem.F.args_list_iadd_2 _ _) (PySem.AutoSeq1.list___iadd___list_list_0 D its.toArray n b its2.toArray n2 hd (by omega) (by omega)) ⟨z.1, hbz.1, h _ (F.change (Heap.SameBut.update ..) z.2.1 z.2.2) (kl_turn (fun x => x ++ its2.toArray) N a c ?_ ?_)⟩
  · simp
  · intro e9
    simp only [List.size_toArray, List.length_append] at e9
    omega
theorem ints_append {a b : List Value} {x y : List Int} (h : IntsAre a x) (k : IntsAre b y) : IntsAre (a ++ b) (x ++ y) := by
  induction h with
  | nil => exact k
  | cons n t _ ih => exact .cons n t ih
theorem strs_append {a b : List Value} {x y : List Str} (h : StrsAre a x) (k : StrsAre b y) : StrsAre (a ++ b) (x ++ y) := by
  induction h with
  | nil => exact k
  | cons n t _ ih => exact .cons n t ih
theorem strs_as {a : List Value} {x y : List Str} (h : StrsAre a x) (e : x = y) : StrsAre a y := e ▸ h
theorem ints_as {a : List Value} {x y : List Int} (h : IntsAre a x) (e : x = y) : IntsAre a y := e ▸ h
theorem values_len {l : List (Str × Tok)} {t : List Str} (e : l.map (·.1) = t) : (strValues l).length = t.length := by
  rw [← e]; simp [strValues]
theorem look_ite (y k : Str) (v : Value) (rest : List (Str × Value)) : List.lookup y ((k, v) :: rest) = if y = k then some v else List.lookup y rest := by
  by_cases h : y = k
  · subst h; simp [List.lookup]
  · have : (y == k) = false := by simpa using h
    simp [List.lookup, this, h]
theorem fr_look {h₀ : Heap} {L : Addr} {h : Heap} {l : List (Str × Value)} (l' : List (Str × Value)) (F : Fr h₀ L h (fun y => List.lookup y l)) (e : l = l') : Fr h₀ L h (fun y => List.lookup y l') := e ▸ F
theorem fr_as {h₀ : Heap} {L : Addr} {h : Heap} {m : Str → Option Value} (m' : Str → Option Value) (F : Fr h₀ L h m) (e : m = m') : Fr h₀ L h m' := e ▸ F
def b64tab : List Int := [65, 66, 67, 68, 69, 70, 71, 72, 73, 74, 75, 76, 77, 78, 79, 80, 81, 82, 83, 84, 85, 86, 87, 88, 89, 90, 97, 98, 99, 100, 101, 102, 103, 104, 105, 106, 107, 108, 109, 110, 111, 112, 113, 114, 115, 116, 117, 118, 119, 120, 121, 122, 48, 49, 50, 51, 52, 53, 54, 55, 56, 57, 43, 47]
def b64at (i : Int) : Int := b64tab.getD i.toNat 0
def num (b : Int) (l : List Int) : Int := l.foldl (fun a x => a * b + x) 0
structure B64Ok (r q : List Int) (b : Array UInt8) : Prop where
  mk ::
  len : q.length = (4 * r.length + 2) / 3
  lo : ∀ x ∈ q, 0 ≤ x ∧ x < 64
  val : num 64 q = num 256 r * 2 ^ (6 * q.length - 8 * r.length)
  is : KBw.bInts b = q.map b64at ++ List.replicate ((3 - r.length % 3) % 3) 61
def names1 : List Str := [Str.ofString "NUL", Str.ofString "SOH", Str.ofString "STX", Str.ofString "ETX", Str.ofString "EOT", Str.ofString "ENQ", Str.ofString "ACK", Str.ofString "BEL", Str.ofString "BS", Str.ofString "HT", Str.ofString "LF", Str.ofString "VT", Str.ofString "FF", Str.ofString "CR", Str.ofString "SO", Str.ofString "SI"]
def names2 : List Str := [Str.ofString "DLE", Str.ofString "DC1", Str.ofString "DC2", Str.ofString "DC3", Str.ofString "DC4", Str.ofString "NAK", Str.ofString "SYN", Str.ofString "ETB", Str.ofString "CAN", Str.ofString "EM", Str.ofString "SUB", Str.ofString "ESC", Str.ofString "FS", Str.ofString "GS", Str.ofString "RS", Str.ofString "US"]
def worths1 : List Int := [0, 1, 2, 3, 4, 5, 6, 7, 8, 9, 10, 11, 12, 13, 14, 15]
def worths2 : List Int := [16, 17, 18, 19, 20, 21, 22, 23, 24, 25, 26, 27, 28, 29, 30, 31]
theorem split_names1 : Txt.split (Str.ofString "NUL SOH STX ETX EOT ENQ ACK BEL BS HT LF VT FF CR SO SI") (Str.ofString " ") = names1 := by decide +kernel
theorem split_names2 : Txt.split (Str.ofString "DLE DC1 DC2 DC3 DC4 NAK SYN ETB CAN EM SUB ESC FS GS RS US") (Str.ofString " ") = names2 := by decide +kernel
end
end Mine
end
section
open PySem PySem.W PyProof.Rows PySem.Calls
namespace Mine
structure Inv (pre q : List Int) (lb lc : Int) : Prop where
  mk ::
  bits : lb = 0 ∨ lb = 2 ∨ lb = 4
  lo : 0 ≤ lc
  hi : lc < 65536
  len : 6 * (q.length : Int) + lb = 8 * (pre.length : Int)
  all : ∀ x ∈ q, 0 ≤ x ∧ x < 64
  val : num 64 q * 2 ^ lb.toNat + lc % 2 ^ lb.toNat = num 256 pre
theorem inv0 : Inv [] [] 0 0 := ⟨.inl rfl, by decide, by decide, by decide, by simp, by decide⟩
theorem r_in (ns : List Int) : KBa.In (ns.map fun x => x.fmod 256) := by
  intro n hn
  obtain ⟨x, _, rfl⟩ := List.mem_map.mp hn
  constructor
  · exact Int.fmod_nonneg_of_pos x (by decide)
  · exact Int.fmod_lt_of_pos x (by decide)
def b64u : List UInt8 := [65, 66, 67, 68, 69, 70, 71, 72, 73, 74, 75, 76, 77, 78, 79, 80, 81, 82, 83, 84, 85, 86, 87, 88, 89, 90, 97, 98, 99, 100, 101, 102, 103, 104, 105, 106, 107, 108, 109, 110, 111, 112, 113, 114, 115, 116, 117, 118, 119, 120, 121, 122, 48, 49, 50, 51, 52, 53, 54, 55, 56, 57, 43, 47]
theorem b64u_at : ∀ j < 64, (((b64u.getD j 0).toNat : Nat) : Int) = b64tab.getD j 0 := by decide +kernel
theorem b64_item {prog : Program} {w : World} {A : Around} {E : Value → Shared → Prop} {s : Shared} {x : List UInt8} {i : Int} {t ui : Tok} {value slice : Expr} {Q : Value → Shared → Prop}
    (hx : x = b64u) (h0 : 0 ≤ i) (h1 : i < 64) (h : Q (.int (b64at i) s.toks) { s with toks := s.toks + 1 })
    (hs : subscripted slice false (.bytes x.toArray t) (.int i ui) = operate [.bytes x.toArray t, .int i ui] (getItem (.bytes x.toArray t) (.int i ui)) := by with_unfolding_all rfl)
    (ht : ∀ r, letTemporaryGo value (.bytes x.toArray t) r = pure () := by intro _; with_unfolding_all rfl) : wpAny (model prog w) A (subscriptTail value slice (.bytes x.toArray t) (.int i ui)) Q E s := by
  have e64 : x.length = 64 := by rw [hx]; rfl
  refine bytes_item_K (by rw [e64]; decide) h0 (by rw [e64]; exact h1) (k := b64at i) ?_ h hs ht
  rw [hx]
  exact b64u_at i.toNat (by omega)
theorem and63 (x : Int) : 0 ≤ Builtin.bitAnd x 63 ∧ Builtin.bitAnd x 63 < 64 := by
  rw [bitAnd_m6]; omega
theorem and3s (x : Int) : 0 ≤ Builtin.bitAnd x 3 * 2 ^ Int.toNat 4 ∧ Builtin.bitAnd x 3 * 2 ^ Int.toNat 4 < 64 := by
  rw [bitAnd_m2]; show 0 ≤ x % 4 * 16 ∧ x % 4 * 16 < 64; omega
theorem and15s (x : Int) : 0 ≤ Builtin.bitAnd x 15 * 2 ^ Int.toNat 2 ∧ Builtin.bitAnd x 15 * 2 ^ Int.toNat 2 < 64 := by
  rw [bitAnd_m4]; show 0 ≤ x % 16 * 4 ∧ x % 16 * 4 < 64; omega
theorem and_shift (a : Int) : ∀ (k : Nat) (n : Int), 0 ≤ n → n < 2 ^ k → Builtin.bitAnd (a * 2 ^ k) n = 0
  | 0, n, h0, h1 => by
    have : n = 0 := by simp at h1; omega
    subst this
    have := bitAnd_range (a * 2 ^ 0) (y := 0) (by decide)
    omega
  | k + 1, n, h0, h1 => by
    rw [kbt_halves]
    have e : a * 2 ^ (k + 1) = 2 * (a * 2 ^ k) := by rw [Int.pow_succ]; rw [← Int.mul_assoc, Int.mul_comm]
    have e1 : a * 2 ^ (k + 1) / 2 = a * 2 ^ k := by rw [e]; omega
    have e2 : a * 2 ^ (k + 1) % 2 = 0 := by rw [e]; omega
    have e3 : (2 : Int) ^ (k + 1) = 2 * 2 ^ k := by rw [Int.pow_succ, Int.mul_comm]
    rw [e1, e2, and_shift a k (n / 2) (by omega) (by omega)]
    simp
theorem char_step (lc n : Int) (h0 : 0 ≤ n) (h1 : n < 256) : Builtin.bitAnd (Builtin.bitOr (lc * 2 ^ Int.toNat 8) n) 65535 = (lc * 256 + n) % 65536 := by
  have h := and_shift lc 8 n h0 (by simpa using h1)
  rw [bitAnd_m16, bitOr_and]
  show (lc * 2 ^ 8 + n - Builtin.bitAnd (lc * 2 ^ 8) n) % 65536 = _
  rw [h]
  show (lc * 256 + n - 0) % 65536 = _
  rw [Int.sub_zero]
theorem fdiv_pow (x : Int) (k : Nat) : x.fdiv (2 ^ k) = x / 2 ^ k := Int.fdiv_eq_ediv_of_nonneg x (Int.le_of_lt (kbt_pos k))
theorem num_snoc (b : Int) (l : List Int) (x : Int) : num b (l ++ [x]) = num b l * b + x := by simp [num]
theorem inv_step0 {pre q : List Int} {lc n : Int} (h : Inv pre q 0 lc) (h0 : 0 ≤ n) (h1 : n < 256) :
    Inv (pre ++ [n]) (q ++ [(lc * 256 + n) % 65536 / 4 % 64]) 2 ((lc * 256 + n) % 65536) := by
  obtain ⟨_, hlo, hhi, hlen, hall, hval⟩ := h
  refine ⟨.inr (.inl rfl), by omega, by omega, ?_, ?_, ?_⟩
  · simp only [List.length_append, List.length_cons, List.length_nil]; omega
  · intro x hx
    rcases List.mem_append.mp hx with hx | hx
    · exact hall x hx
    · rw [List.mem_singleton.mp hx]; omega
  · rw [num_snoc, num_snoc]
    have e1 : (2 : Int) ^ Int.toNat 2 = 4 := rfl
    have e0 : (2 : Int) ^ Int.toNat 0 = 1 := rfl
    rw [e0] at hval
    rw [e1]
    omega
theorem inv_step2 {pre q : List Int} {lc n : Int} (h : Inv pre q 2 lc) (h0 : 0 ≤ n) (h1 : n < 256) :
    Inv (pre ++ [n]) (q ++ [(lc * 256 + n) % 65536 / 16 % 64]) 4 ((lc * 256 + n) % 65536) := by
  obtain ⟨_, hlo, hhi, hlen, hall, hval⟩ := h
  refine ⟨.inr (.inr rfl), by omega, by omega, ?_, ?_, ?_⟩
  · simp only [List.length_append, List.length_cons, List.length_nil]; omega
  · intro x hx
    rcases List.mem_append.mp hx with hx | hx
    · exact hall x hx
    · rw [List.mem_singleton.mp hx]; omega
  · rw [num_snoc, num_snoc]
    have e1 : (2 : Int) ^ Int.toNat 4 = 16 := rfl
    have e0 : (2 : Int) ^ Int.toNat 2 = 4 := rfl
    rw [e0] at hval
    rw [e1]
    omega
theorem inv_step4 {pre q : List Int} {lc n : Int} (h : Inv pre q 4 lc) (h0 : 0 ≤ n) (h1 : n < 256) :
    Inv (pre ++ [n]) ((q ++ [(lc * 256 + n) % 65536 / 64 % 64]) ++ [(lc * 256 + n) % 65536 % 64]) 0 ((lc * 256 + n) % 65536) := by
  obtain ⟨_, hlo, hhi, hlen, hall, hval⟩ := h
  refine ⟨.inl rfl, by omega, by omega, ?_, ?_, ?_⟩
  · simp only [List.length_append, List.length_cons, List.length_nil]; omega
  · intro x hx
    rcases List.mem_append.mp hx with hx | hx
    · rcases List.mem_append.mp hx with hx | hx
      · exact hall x hx
      · rw [List.mem_singleton.mp hx]; omega
    · rw [List.mem_singleton.mp hx]; omega
  · rw [num_snoc, num_snoc, num_snoc]
    have e1 : (2 : Int) ^ Int.toNat 4 = 16 := rfl
    have e0 : (2 : Int) ^ Int.toNat 0 = 1 := rfl
    rw [e1] at hval
    rw [e0]
    omega
theorem ints_b64 {ov : List Value} {q : List Int} (h : IntsAre ov (q.map b64at)) {i x : Int} (e : i = x) (t : Tok) : IntsAre (ov ++ [.int (b64at i) t]) ((q ++ [x]).map b64at) := by
  subst e
  rw [List.map_append]
  exact ints_append h (.cons _ t .nil)
theorem six_at (lc n : Int) (k : Nat) (h0 : 0 ≤ n) (h1 : n < 256) : Builtin.bitAnd ((Builtin.bitAnd (Builtin.bitOr (lc * 2 ^ Int.toNat 8) n) 65535).fdiv (2 ^ k)) 63 = (lc * 256 + n) % 65536 / 2 ^ k % 64 := by
  rw [char_step lc n h0 h1, bitAnd_m6, fdiv_pow]
theorem ints_snoc {vs : List Value} {ks : List Int} (h : IntsAre vs ks) (x : Int) (t : Tok) : IntsAre (vs ++ [.int x t]) (ks ++ [x]) := ints_append h (.cons x t .nil)
end Mine
end
section
open PySem PySem.W PyProof.Rows PySem.Calls
namespace Mine
theorem and3_small (x : Int) : (Builtin.bitAnd x 3).natAbs < 2 ^ 64 := by
  rw [bitAnd_m2]; omega
theorem and15_small (x : Int) : (Builtin.bitAnd x 15).natAbs < 2 ^ 64 := by
  rw [bitAnd_m4]; omega
theorem b64at_in (i : Int) : 0 ≤ b64at i ∧ b64at i < 256 := by
  unfold b64at
  by_cases h : i.toNat < 64
  · have : ∀ j < 64, 0 ≤ b64tab.getD j 0 ∧ b64tab.getD j 0 < 256 := by decide +kernel
    exact this _ h
  · have hl : b64tab.length = 64 := by decide +kernel
    have : b64tab.getD i.toNat 0 = 0 := by
      rw [List.getD_eq_getElem?_getD, List.getElem?_eq_none (by omega)]; rfl
    rw [this]; decide
theorem b64_map_in (q : List Int) : KBa.In (q.map b64at) := by
  intro n hn
  obtain ⟨x, _, rfl⟩ := List.mem_map.mp hn
  exact b64at_in x
theorem in_app {a b : List Int} (h : KBa.In a) (k : KBa.In b) : KBa.In (a ++ b) := by
  intro n hn
  rcases List.mem_append.mp hn with hn | hn
  · exact h n hn
  · exact k n hn
section
variable {prog : Program} {w : World} {A : Around} {E : Value → Shared → Prop} {s : Shared} {h₀ : Heap} {L D : Addr} {m : Str → Option Value} {news : List (Addr × Obj)} {vs : List Value} {ks : List Int} {n : Nat}
theorem my_bytes {Q : Value → Shared → Prop} (F : Fr h₀ L s.heap m) (N : News h₀ L s.heap news) (hm : (D, listOf vs.toArray n) ∈ news) (hi : IntsAre vs ks) (hr : KBa.In ks) (hn : ks.length ≤ 1000) (hh : A.handled = none)
    (h : ∀ h' t' k, Fr h₀ L h' m → News h₀ L h' news → Q (.bytes (byteArr ks) t') { s with heap := h', toks := k }) : wpAny (model prog w) A (call (.type "bytes") [.ref D]) Q E s :=
  KBa.make_K F N hh (News.isList N hm) hi hr (by omega) fun h' t' k F' N' _ => h h' t' k F' N'
end
theorem pow_sub (a b k : Nat) (h : a - b = k) : (2 : Int) ^ (a - b) = 2 ^ k := by rw [h]
theorem b64ok0 {r q : List Int} {lc : Int} (h : Inv r q 0 lc) : B64Ok r q (byteArr (q.map b64at)) := by
  obtain ⟨_, hlo, hhi, hlen, hall, hval⟩ := h
  refine ⟨by omega, hall, ?_, ?_⟩
  · rw [pow_sub _ _ 0 (by omega)]
    have e0 : (2 : Int) ^ Int.toNat 0 = 1 := rfl
    rw [e0] at hval
    omega
  · rw [KBa.ints_make (b64_map_in q), show (3 - r.length % 3) % 3 = 0 by omega]
    simp
theorem b64ok2 {r q : List Int} {lc : Int} (h : Inv r q 2 lc) : B64Ok r (q ++ [lc % 4 * 16]) (byteArr ((q ++ [lc % 4 * 16]).map b64at ++ [61, 61])) := by
  obtain ⟨_, hlo, hhi, hlen, hall, hval⟩ := h
  refine ⟨?_, ?_, ?_, ?_⟩
  · simp only [List.length_append, List.length_cons, List.length_nil]; omega
  · intro x hx
    rcases List.mem_append.mp hx with hx | hx
    · exact hall x hx
    · rw [List.mem_singleton.mp hx]; omega
  · rw [pow_sub _ _ 4 (by simp only [List.length_append, List.length_cons, List.length_nil]; omega), num_snoc]
    have e0 : (2 : Int) ^ Int.toNat 2 = 4 := rfl
    rw [e0] at hval
    omega
  · rw [KBa.ints_make (in_app (b64_map_in _) (show ∀ n ∈ ([61, 61] : List Int), 0 ≤ n ∧ n < 256 by decide)), show (3 - r.length % 3) % 3 = 2 by omega]
    rfl
theorem b64ok4 {r q : List Int} {lc : Int} (h : Inv r q 4 lc) : B64Ok r (q ++ [lc % 16 * 4]) (byteArr ((q ++ [lc % 16 * 4]).map b64at ++ [61])) := by
  obtain ⟨_, hlo, hhi, hlen, hall, hval⟩ := h
  refine ⟨?_, ?_, ?_, ?_⟩
  · simp only [List.length_append, List.length_cons, List.length_nil]; omega
  · intro x hx
    rcases List.mem_append.mp hx with hx | hx
    · exact hall x hx
    · rw [List.mem_singleton.mp hx]; omega
  · rw [pow_sub _ _ 2 (by simp only [List.length_append, List.length_cons, List.length_nil]; omega), num_snoc]
    have e0 : (2 : Int) ^ Int.toNat 4 = 16 := rfl
    rw [e0] at hval
    omega
  · rw [KBa.ints_make (in_app (b64_map_in _) (show ∀ n ∈ ([61] : List Int), 0 ≤ n ∧ n < 256 by decide)), show (3 - r.length % 3) % 3 = 1 by omega]
    rfl
theorem ints_tail2 {ov : List Value} {q : List Int} (h : IntsAre ov (q.map b64at)) (lc : Int) (a b c : Tok) :
    IntsAre (((ov ++ [.int (b64at (Builtin.bitAnd lc 3 * 2 ^ Int.toNat 4)) a]) ++ [.int 61 b]) ++ [.int 61 c]) ((q ++ [lc % 4 * 16]).map b64at ++ [61, 61]) := by
  have := ints_append (ints_append (ints_b64 h (i := Builtin.bitAnd lc 3 * 2 ^ Int.toNat 4) (x := lc % 4 * 16) (by rw [bitAnd_m2]; rfl) a) (.cons 61 b .nil)) (.cons 61 c .nil)
  exact ints_as this (by simp)
theorem ints_tail4 {ov : List Value} {q : List Int} (h : IntsAre ov (q.map b64at)) (lc : Int) (a b : Tok) :
    IntsAre ((ov ++ [.int (b64at (Builtin.bitAnd lc 15 * 2 ^ Int.toNat 2)) a]) ++ [.int 61 b]) ((q ++ [lc % 16 * 4]).map b64at ++ [61]) :=
  ints_append (ints_b64 h (x := lc % 16 * 4) (by rw [bitAnd_m4]; rfl) a) (.cons 61 b .nil)
end Mine
end
section
open PySem PySem.W PyProof.Rows PySem.Calls PySem.Spec
namespace Mine
open PyProof.Rows.LCg PyProof.Rows.LCt
section
variable {prog : Program} {w : World} {A : Around} {E : Value → Shared → Prop} {s : Shared} {h₀ : Heap} {L : Addr} {m : Str → Option Value} {env : Env}
/-- a list comprehension with one test, over a bytes -/
theorem comp_bytes {ct elt iter : Expr} {x y : Str} {px py : Pos} {scope : Scope} {cl : List (Str × Addr)} {pos spos : Pos} {b : Array UInt8} {tb : Tok} {news : List (Addr × Obj)} {Q : Flow → Shared → Prop}
    (F : Fr h₀ L s.heap m) (N : News h₀ L s.heap news) (hLe : env.locals = L)
    (hsw : swapsWith (.ListComp elt [⟨.Name x px, iter, [ct], 0⟩] scope pos) (some (.Name y py)) spos.line env = pure true)
    (hclos : closureFor scope env = pure cl) (hcell : ∀ z ∈ scope.names, z.2 ≠ .cell) (hkind : scope.kind = .function)
    (hnames : ∀ z ∈ scope.names, z.2 = .local → scope.names.lookup z.1 = some .local) (hx : scope.names.lookup x = some .local)
    (hy : env.kindOf y = some .local) (hp : (env.scope.kind == .class || (env.scope.kind == .module && env.locals != env.globals)) = false)
    (hh : A.handled = none) (hsz : b.size ≤ sizeLine)
    (hi : wpAny (model prog w) A (eval iter env) (fun xv s₁ => xv = .bytes b tb ∧ s₁ = s) E s)
    (R : ∀ g, CompRestT prog w A h₀ L m env ct elt x scope cl { s with heap := g } (fun _ => True) (fun i v => ∃ c u, b[i]? = some c ∧ v = .int (c.toNat : Int) u) (FinA h₀ L m { s with heap := g } y Q) b.size 0 [] news)
    (hs : ∀ x, foldedSetIterable iter env x = pure x := by intro _; rfl) :
    wpAny (model prog w) A (exec (.Assign [.Name y py] (.ListComp elt [⟨.Name x px, iter, [ct], 0⟩] scope pos) spos) env) Q E s := by
  subst hLe
  rw [exec_Assign_Name_used _ _ _ _ hsw]
  refine wpAny_bind (wpAny_standAt (wpAny_bind ?_))
  show wpAny _ A (do let _ ← comprehension (.ListComp elt [⟨.Name x px, iter, [ct], 0⟩] scope pos) scope env _ (newList []) false (eval iter env) (some (assign (.Name y py) env))) _ _ s
  refine wpAny_bind (wpAny_mono (wpAny_comprehension_free (use := some (assign (.Name y py) env)) (Q := fun _ s' => Q .next s') rfl hs hclos hkind hnames
    (wpAny_mono hi (fun xv s₁ h₁ => ?_) fun _ _ e => e)) (fun _ s' hq => wpAny_pure (wpAny_pure hq)) fun _ _ e => e)
  obtain ⟨rfl, rfl⟩ := h₁
  refine KBw.pyIter_bytes ?_
  have up : ∀ c o, s₁.heap.get? c = some o → (s₁.heap.push { cls := .type "bytes_iterator", data := .fields #[.bytes b tb, .int 0 0] }).get? c = some o := fun c o e => Heap.get?_push_of_some _ e
  refine block_T (KBw.walks hh s₁.heap.objs.size b tb) hsz (fun i h st => by obtain ⟨o, e, _⟩ := st; exact ⟨o, e⟩) (fun i h h' o nw st e e' _ _ _ => ?_) hcell hkind hx ⟨_, Heap.get?_push_size _ rfl, rfl, rfl⟩ (fun c hc => ?_)
    (F.keeps up) (N.grown up) (Nat.ne_of_lt F.ns.lt) (next_is_new F) (fun p hp => Nat.ne_of_lt (Heap.lt_size (N p hp).1)) trivial (R _) ?_
  · obtain ⟨o2, e2, r⟩ := st
    rw [e] at e2
    obtain rfl := Option.some.inj e2
    exact ⟨o, e', r⟩
  · rw [List.mem_singleton.mp hc]
    show s₁.heap.objs.size < (s₁.heap.push _).objs.size
    rw [Heap.size_push]; exact Nat.lt_succ_self _
  · intro D C h' tk m' ys news' F' N' o1 hn hC₀ hD₀ hCL hDL hCD offC fin
    show wpAny _ A (assign (.Name y py) env (.ref D)) _ _ _
    refine wpAny_assign_Name (wpAny_storeName_local hy F'.ns (fun h₂ hn₂ hs₂ => ?_) hp)
    have hL₀ : h₀.get? env.locals = none := Heap.get?_none_of_le F'.above
    have F₂ : Fr h₀ env.locals h₂ (fun z => if z = y then some (.ref D) else m z) := ⟨hn₂, fun b o e => hs₂.extBut b o (fun q => by rw [q, hL₀] at e; cases e) (F'.keep b o e), F'.above⟩
    refine ⟨m', hn.sameBut hs₂ hCL, fun h'' hs'' => fin D h'' _ (F₂.change hs'' hCL hC₀) (fun p hp => ?_) o1⟩
    have z : h₂.get? p.1 = some p.2 := hs₂.extBut _ _ (N' p hp).2.1 (N' p hp).1
    refine ⟨hs''.extBut _ _ ?_ z, (N' p hp).2⟩
    rcases List.mem_cons.mp hp with rfl | hp
    · exact Ne.symm hCD
    · exact offC p hp
end
def b64find (k : Int) : Int := match b64tab.findIdx? (· == k) with | some j => j | none => -1
theorem b64find_tab : ∀ j < 64, b64find (b64tab.getD j 0) = j ∧ b64tab.getD j 0 ≠ 61 := by decide +kernel
theorem b64find_at {x : Int} (h0 : 0 ≤ x) (h1 : x < 64) : b64find (b64at x) = x ∧ b64at x ≠ 61 := by
  have := b64find_tab x.toNat (by omega)
  unfold b64at
  refine ⟨this.1.trans (by omega), this.2⟩
def sixStep (l : List Int) (k : Int) : List Int := if k = 61 then l else l ++ [b64find k]
theorem six_fold : ∀ (q l : List Int), (∀ x ∈ q, 0 ≤ x ∧ x < 64) → (q.map b64at).foldl sixStep l = l ++ q
  | [], l, _ => by simp
  | x :: q, l, h => by
    have hx := h x (List.mem_cons_self ..)
    have e := b64find_at hx.1 hx.2
    rw [List.map_cons, List.foldl_cons, show sixStep l (b64at x) = l ++ [x] by unfold sixStep; rw [if_neg e.2, e.1], six_fold q _ fun y hy => h y (List.mem_cons_of_mem _ hy)]
    simp
theorem six_pad : ∀ (n : Nat) (l : List Int), (List.replicate n 61).foldl sixStep l = l
  | 0, l => rfl
  | n + 1, l => by rw [List.replicate_succ, List.foldl_cons, show sixStep l 61 = l from rfl, six_pad n l]
theorem six_grows : KPfGrows sixStep := by
  intro l k
  unfold sixStep
  split
  · omega
  · simp
theorem six_all {r q : List Int} {b : Array UInt8} (h : B64Ok r q b) : (KBw.bInts b).foldl sixStep [] = q := by
  rw [h.is, List.foldl_append, six_fold _ _ h.lo, List.nil_append, six_pad]
theorem six_mem {r q : List Int} {b : Array UInt8} (h : B64Ok r q b) {k : Int} (hk : k ∈ KBw.bInts b) : k = 61 ∨ ∃ x, 0 ≤ x ∧ x < 64 ∧ k = b64at x := by
  rw [h.is] at hk
  rcases List.mem_append.mp hk with hk | hk
  · obtain ⟨x, hx, rfl⟩ := List.mem_map.mp hk
    exact .inr ⟨x, (h.lo x hx).1, (h.lo x hx).2, rfl⟩
  · exact .inl (List.eq_of_mem_replicate hk)
theorem b64_len {r q : List Int} {b : Array UInt8} (h : B64Ok r q b) : b.size = q.length + (3 - r.length % 3) % 3 := by
  rw [← KBw.ints_length, h.is]; simp
theorem find_tab : ∀ j < 64, Builtin.Bytes.find? b64u.toArray #[(b64tab.getD j 0).toNat.toUInt8] 0 64 = some j := by decide +kernel
end Mine
end
section
open PySem PySem.W PyProof.Rows PySem.Calls PySem.Spec Builtin
namespace Mine
theorem slot_find : Slot "bytes" "find" "bytes.find" :=
  .of (owner := "bytes") (n := "find") (by rw [typeLookup_type, builtinLookup_eq_fast]; kernel_rfl) (by decide +kernel) (by decide +kernel) (by decide +kernel)
    (by first | exact .inl (by decide +kernel) | exact .inr (by decide +kernel)) (by rw [isSubtype_type]; kernel_rfl)
theorem type_find : typeOf (.builtin "bytes.find") = pure (.type "method_descriptor") := by show builtinType _ = _; rw [builtinType_eq_fast]; kernel_rfl
theorem entry_find : entryFor table "bytes.find" = some Builtin.«bytes.find» := entryFor_of_tree (by kernel_rfl)
theorem args_find (a b : Value) : argsOk "bytes.find" ⟨[a, b], []⟩ := by
  unfold argsOk; rw [signature?_of (id := "bytes.find") (n := ['d', 'n', 'i', 'f']) (o := ['s', 'e', 't', 'y', 'b']) (by kernel_rfl) FB.owner_bytes]; kernel_rfl
theorem int_no_buffer : typeLookup (.type "int") "__buffer__" = pure none := by rw [typeLookup_type, builtinLookup_eq_fast]; kernel_rfl
theorem gives_find {i : Int} {j : Nat} (t u : Tok) (h0 : 0 ≤ i) (h1 : i < 256) (hj : Bytes.find? b64u.toArray #[i.toNat.toUInt8] 0 64 = some j) :
    Gives («bytes.find» ⟨[.bytes b64u.toArray t, .int i u], []⟩) (.int j) := by
  refine .of_wp fun M A E s Q hq => ?_
  show wpAny M A (Bytes.searchArgs .bytes "find" ⟨[.bytes b64u.toArray t, .int i u], []⟩ >>= fun r => _) _ E s
  refine wpAny_bind ?_
  unfold Bytes.searchArgs
  refine wpAny_bind (wpAny_of_eq (a := (.bytes b64u.toArray t, [.int i u])) (by rfl) ?_)
  refine wpAny_bind (wpAny_of_eq (a := none) (by rfl) ?_)
  refine wpAny_bind (wpAny_of_eq (a := none) (by rfl) ?_)
  show wpAny M A (Bytes.buffer? _ (.int i u) >>= fun r => _) _ E s
  refine wpAny_bind ?_
  unfold Bytes.buffer?
  refine wpAny_bind (wpAny_specialOf (typeIs_int s i u) int_no_buffer ?_)
  refine wpAny_bind (wpAny_specialOf (typeIs_int s i u) int_no_buffer ?_)
  refine wpAny_pure ?_
  refine wpAny_bind (wpAny_specialOf (typeIs_int s i u) F.slot_int_index.lookup ?_)
  show wpAny M A (Bytes.indexHeld [.bytes b64u.toArray t] (.int i u) >>= fun r => _) _ E s
  refine wpAny_bind (wpAny_of_eq (a := i) (by rfl) ?_)
  have hc : ¬ ((decide (i < 0) || decide (i ≥ 256)) = true) := by simp; omega
  rw [if_neg hc]
  refine wpAny_bind (wpAny_pure ?_)
  refine wpAny_bind (wpAny_of_eq (a := b64u.toArray) (by rfl) ?_)
  show wpAny M A (pure (b64u.toArray, #[i.toNat.toUInt8], some (0, 64))) _ E s
  refine wpAny_pure ?_
  show wpAny M A (match ((some (0, 64) : Option (Nat × Nat)).bind fun (lo, hi) => if false = true then Bytes.rfind? b64u.toArray _ lo hi else Bytes.find? b64u.toArray #[i.toNat.toUInt8] lo hi) with | some i => retInt i | none => _) _ E s
  simp only [Option.bind_some, Bool.false_eq_true, if_false, hj]
  exact wpAny_bind (wpAny_mkInt (wpAny_pure ⟨_, rfl, hq⟩))
section
variable {prog : Program} {w : World} {A : Around} {E : Value → Shared → Prop} {s : Shared} {t u : Tok}
theorem my_find {x : Int} {Q : Value → Shared → Prop} (h0 : 0 ≤ x) (h1 : x < 64) (h : Q (.int x s.toks) { s with toks := s.toks + 1 }) :
    wpAny (model prog w) A (call (.builtin "bytes.find") [.bytes b64u.toArray t, .int (b64at x) u]) Q E s := by
  have hx : ((x.toNat : Nat) : Int) = x := by omega
  rw [← hx] at h
  exact call_gives slot_find (typeIs_bytes _ _ _) entry_find (args_find _ _) (gives_find (j := x.toNat) t u (b64at_in x).1 (b64at_in x).2 (find_tab x.toNat (by omega))) h
theorem my_find_method {M : Model} {b : Array UInt8} {pl : Sem Bool} {Q : Value × List Value → Shared → Prop} (h : Q (.builtin "bytes.find", [.bytes b t]) s) : wpAny M A (getMethod (.bytes b t) (Str.ofString "find") pl) Q E s :=
  KBd.method_of (.bytes b t) (typeIs_bytes _ _ _) slot_find type_find KBd.noRef h
end
end Mine
end
section
open PySem PySem.W PyProof.Rows PySem.Calls
namespace Mine
theorem pad_fmod (n : Nat) : ((-(n : Int)).fmod 3).toNat = (3 - n % 3) % 3 := by
  rw [Int.fmod_eq_emod_of_nonneg _ (by decide)]; omega
theorem bytes_rep : ∀ (l : List UInt8) (p : Nat), (l.map fun c => ((c.toNat : Nat) : Int)) = List.replicate p 61 → l = List.replicate p 61
  | [], p, h => by
    have := congrArg List.length h
    simp at this
    subst this; rfl
  | c :: l, 0, h => by simp at h
  | c :: l, p + 1, h => by
    rw [List.map_cons, List.replicate_succ] at h
    have h1 := (List.cons.inj h).1
    have h2 := bytes_rep l p (List.cons.inj h).2
    have : c = 61 := UInt8.toNat_inj.mp (by have : c.toNat = 61 := by omega
                                            rw [this]; rfl)
    rw [this, h2, List.replicate_succ]
theorem b64_cut {r q ks : List Int} {b x : Array UInt8} {n : Nat} (h : B64Ok r q b) (hn : r.length = n) (hk : KBw.bInts b = ks)
    (hx : KBw.bInts x = List.take (ks.length - min q.length ks.length) (List.drop (min q.length ks.length) ks)) :
    (x.toList != (List.replicate ((-(n : Int)).fmod 3).toNat [(61 : UInt8)]).flatten.toArray.toList) = false := by
  have hl : q.length ≤ ks.length := by rw [← hk, h.is]; simp
  rw [Nat.min_eq_left hl] at hx
  have e : List.drop q.length ks = List.replicate ((3 - n % 3) % 3) 61 := by
    rw [← hk, h.is, hn, List.drop_append_of_le_length (by simp), List.drop_of_length_le (by simp), List.nil_append]
  rw [List.take_of_length_le (by rw [List.length_drop]; omega), e] at hx
  have := bytes_rep _ _ hx
  rw [this, pad_fmod]
  simp
theorem not_minus {r q : List Int} {b : Array UInt8} (h : B64Ok r q b) : ¬ (-1 : Int) ∈ q := fun hm => by have := (h.lo _ hm).1; omega
theorem not_minus1 {r q : List Int} {b : Array UInt8} (h : B64Ok r q b) (e : (q.any fun x => x == -1) = true) : False := by
  obtain ⟨x, hx, hx1⟩ := List.any_eq_true.mp e
  have : x = -1 := by simpa using hx1
  exact not_minus h (this ▸ hx)
theorem cut_no {r q ks : List Int} {b x : Array UInt8} {n : Nat} (h : B64Ok r q b) (hn : r.length = n) (hk : KBw.bInts b = ks)
    (hx : KBw.bInts x = List.take (ks.length - min q.length ks.length) (List.drop (min q.length ks.length) ks))
    (e : (x.toList != (List.replicate ((-(n : Int)).fmod 3).toNat [(61 : UInt8)]).flatten.toArray.toList) = true) : False := by
  rw [b64_cut h hn hk hx] at e
  exact Bool.noConfusion e
end Mine
end
section
open PySem PySem.W PyProof.Rows PySem.Calls
namespace Mine
theorem snoc_rec {P : List Int → Prop} (h0 : P []) (h1 : ∀ l x, P l → P (l ++ [x])) : ∀ l, P l := by
  intro l
  rw [← List.reverse_reverse l]
  induction l.reverse with
  | nil => exact h0
  | cons x t ih => rw [List.reverse_cons]; exact h1 _ _ ih
theorem pow2_le {a b : Nat} (h : a ≤ b) : (2 : Int) ^ a ≤ 2 ^ b := by
  obtain ⟨c, rfl⟩ := Nat.le.dest h
  rw [Int.pow_add]
  have h1 := kbt_pos a
  have h2 := kbt_pos c
  have := Int.mul_le_mul_of_nonneg_left (show (1 : Int) ≤ 2 ^ c by omega) (Int.le_of_lt h1)
  omega
theorem num_range (b : Int) (hb : 0 < b) : ∀ (l : List Int), (∀ x ∈ l, 0 ≤ x ∧ x < b) → 0 ≤ num b l ∧ num b l < b ^ l.length := by
  intro l
  induction l using snoc_rec with
  | h0 => intro _; exact ⟨Int.le_refl 0, by simp [num]⟩
  | h1 l x ih =>
    intro h
    have h1 := ih fun y hy => h y (List.mem_append_left _ hy)
    have h2 := h x (List.mem_append_right _ (List.mem_singleton.mpr rfl))
    rw [num_snoc]
    refine ⟨Int.add_nonneg (Int.mul_nonneg h1.1 (Int.le_of_lt hb)) h2.1, ?_⟩
    rw [List.length_append, List.length_singleton, Int.pow_succ]
    have h3 : (num b l + 1) * b ≤ b ^ l.length * b := Int.mul_le_mul_of_nonneg_right (by omega) (Int.le_of_lt hb)
    rw [Int.add_mul] at h3
    omega
theorem bits_of {x : Int} {k : Nat} (h0 : 0 ≤ x) (h : x < 2 ^ k) : Builtin.Int.intBits x ≤ k := by
  refine intBits_le ?_
  have : ((x.natAbs : Nat) : Int) < ((2 ^ k : Nat) : Int) := by
    rw [Int.natCast_pow]; show ((x.natAbs : Nat) : Int) < 2 ^ k; omega
  omega
theorem mulOk_num {q : List Int} {lack : Nat} (h : ∀ x ∈ q, 0 ≤ x ∧ x < 64) (hq : q.length ≤ 20) (hl : lack ≤ 4) : IntMulOk (num 64 q) (2 ^ Int.toNat (lack : Int)) := by
  have h1 := num_range 64 (by decide) q h
  have h2 : (64 : Int) ^ q.length ≤ 2 ^ 120 := by
    have : (64 : Int) ^ q.length = 2 ^ (6 * q.length) := by rw [Int.pow_mul]; rfl
    rw [this]
    exact pow2_le (by omega)
  refine PyProof.Rows.mulOk_of_bits (m := 120) (n := 5) (bits_of h1.1 (Int.lt_of_lt_of_le h1.2 h2)) (bits_of (Int.le_of_lt (kbt_pos _)) ?_) (by decide)
  rw [Int.toNat_natCast]
  exact Int.lt_of_le_of_lt (pow2_le hl) (show (2 : Int) ^ 4 < 2 ^ 5 by decide)
end Mine
namespace Mine
theorem spare_val {r q : List Int} {b : Array UInt8} {lack sp : Nat} (h : B64Ok r q b) (hs : 6 * q.length - 8 * r.length = sp) : num 64 q * 2 ^ lack = num 256 r * 2 ^ lack * 2 ^ sp := by
  rw [h.val, hs]
  rw [Int.mul_assoc, Int.mul_comm (2 ^ sp), ← Int.mul_assoc]
theorem spare_mod {r q : List Int} {b : Array UInt8} {lack sp : Nat} (h : B64Ok r q b) (hs : 6 * q.length - 8 * r.length = sp) : (num 64 q * 2 ^ lack).fmod (2 ^ sp) = 0 := by
  rw [spare_val h hs, Int.fmod_eq_emod_of_nonneg _ (Int.le_of_lt (kbt_pos _))]
  exact Int.mul_emod_left _ _
theorem spare_div {r q : List Int} {b : Array UInt8} {lack sp : Nat} (h : B64Ok r q b) (hs : 6 * q.length - 8 * r.length = sp) : (num 64 q * 2 ^ lack).fdiv (2 ^ sp) = num 256 r * 2 ^ lack := by
  rw [spare_val h hs, Int.fdiv_eq_ediv_of_nonneg _ (Int.le_of_lt (kbt_pos _))]
  exact Int.mul_ediv_cancel _ (by have := kbt_pos sp; omega)
end Mine
namespace Mine
theorem num_bound {r : List Int} {lack many : Nat} (h : KBa.In r) (e : 5 * many = 8 * r.length + lack) : 0 ≤ num 256 r * 2 ^ lack ∧ num 256 r * 2 ^ lack < 32 ^ many := by
  have h1 := num_range 256 (by decide) r h
  have h2 := kbt_pos lack
  refine ⟨Int.mul_nonneg h1.1 (Int.le_of_lt h2), ?_⟩
  have e1 : (32 : Int) ^ many = 256 ^ r.length * 2 ^ lack := by
    rw [show (32 : Int) ^ many = 2 ^ (5 * many) by rw [Int.pow_mul]; rfl, e, Int.pow_add, Int.pow_mul]; rfl
  rw [e1]
  exact Int.mul_lt_mul_of_pos_right h1.2 h2
end Mine
end
section
open PySem PySem.W PyProof.Rows PySem.Calls
namespace Mine
def allNames : List Str := names1 ++ names2
def fiveAt (N : Int) (many k : Nat) : Int := N / 32 ^ (many - 1 - k) % 32
/-- a word of the telegram that stands for v -/
def WordOk (v : Int) (w : Str) : Prop :=
  (w = allNames.getD v.toNat Str.empty) ∨ (∃ (pre : List Nat) (c : Nat), (pre = [] ∨ pre = [94] ∨ pre = [33] ∨ pre = [33, 94]) ∧ w.cps = (pre ++ [c]).toArray ∧ c ≠ 10 ∧ c < 256 ∧ ((c % 32 : Nat) : Int) = v)
def WordsOk (N : Int) (many : Nat) (ss : List Str) : Prop := ∀ i, i < ss.length → WordOk (fiveAt N many i) (ss.getD i Str.empty)
theorem words0 (N : Int) (many : Nat) : WordsOk N many [] := by intro i hi; simp at hi
theorem words_snoc {N : Int} {many : Nat} {ss : List Str} {w : Str} (h : WordsOk N many ss) (hw : WordOk (fiveAt N many ss.length) w) : WordsOk N many (ss ++ [w]) := by
  intro i hi
  rw [List.length_append, List.length_singleton] at hi
  by_cases h1 : i < ss.length
  · rw [List.getD_eq_getElem?_getD, List.getElem?_append_left h1, ← List.getD_eq_getElem?_getD]
    exact h i h1
  · have e : i = ss.length := by omega
    subst e
    rw [List.getD_eq_getElem?_getD, List.getElem?_append_right (Nat.le_refl _), Nat.sub_self]
    exact hw
theorem five_range (N : Int) (many k : Nat) : 0 ≤ fiveAt N many k ∧ fiveAt N many k < 32 := by unfold fiveAt; omega
end Mine
namespace Mine
theorem pow32_pos (k : Nat) : (0 : Int) < 32 ^ k := by
  have := kbt_pos (5 * k)
  rw [Int.pow_mul] at this
  exact this
theorem five_eq {N : Int} {many k : Nat} (h : k < many) : (N.fdiv (32 ^ ((many : Int) - 1 - (k : Int)).toNat)).fmod 32 = fiveAt N many k := by
  have e : ((many : Int) - 1 - (k : Int)).toNat = many - 1 - k := by omega
  rw [e, Int.fdiv_eq_ediv_of_nonneg _ (Int.le_of_lt (pow32_pos _)), Int.fmod_eq_emod_of_nonneg _ (by decide)]
  rfl
end Mine
end
section
open PySem PySem.W PyProof.Rows PySem.Calls
namespace Mine
section
variable {prog : Program} {w : World} {A : Around} {E : Value → Shared → Prop} {s : Shared} {h₀ : Heap} {L D : Addr} {news : List (Addr × Obj)}
theorem strs_item {value slice : PySem.Expr} {vs : List Value} {ys : List Str} {n : Nat} {k : Int} {u : Tok} {Q : Value → Shared → Prop} (N : News h₀ L s.heap news) (hm : (D, listOf vs.toArray n) ∈ news) (hi : StrsAre vs ys) (h0 : 0 ≤ k) (h1 : k < (ys.length : Int)) (hl : ys.length ≤ 1000)
    (h : ∀ t, Q (.str (ys.getD k.toNat Str.empty) t) s)
    (hs : subscripted slice false (.ref D) (.int k u) = operate [.ref D, .int k u] (getItem (.ref D) (.int k u)) := by with_unfolding_all rfl) :
    wpAny (model prog w) A (subscriptTail value slice (.ref D) (.int k u)) Q E s := by
  have hk : k.toNat < ys.length := by omega
  obtain ⟨t, ht⟩ := hi.at (j := k.toNat) (y := ys[k.toNat]) (by simp [hk])
  refine item_litK (News.isList N hm) h0 (by omega) ht ?_ hs
  have := h t
  rw [List.getD_eq_getElem?_getD, List.getElem?_eq_getElem hk] at this
  exact this
end
end Mine
namespace Mine
theorem ctl_eq {v : Int} (h0 : 0 ≤ v) (h1 : v < 32) : ([Str.ofString "NUL", Str.ofString "SOH", Str.ofString "STX", Str.ofString "ETX", Str.ofString "EOT", Str.ofString "ENQ", Str.ofString "ACK", Str.ofString "BEL", Str.ofString "BS", Str.ofString "HT", Str.ofString "LF", Str.ofString "VT", Str.ofString "FF", Str.ofString "CR", Str.ofString "SO", Str.ofString "SI", Str.ofString "DLE", Str.ofString "DC1", Str.ofString "DC2", Str.ofString "DC3", Str.ofString "DC4", Str.ofString "NAK", Str.ofString "SYN", Str.ofString "ETB", Str.ofString "CAN", Str.ofString "EM", Str.ofString "SUB", Str.ofString "ESC", Str.ofString "FS", Str.ofString "GS", Str.ofString "RS", Str.ofString "US", Str.ofString "SP"] : List Str).getD v.toNat Str.empty = allNames.getD v.toNat Str.empty := by
  show (allNames ++ [Str.ofString "SP"]).getD v.toNat Str.empty = _
  have : v.toNat < allNames.length := by show v.toNat < 32; omega
  rw [List.getD_eq_getElem?_getD, List.getElem?_append_left this, ← List.getD_eq_getElem?_getD]
theorem ctl_no {v : Int} (h0 : 0 ≤ v) (h1 : v < 32) (e : (([Str.ofString "NUL", Str.ofString "SOH", Str.ofString "STX", Str.ofString "ETX", Str.ofString "EOT", Str.ofString "ENQ", Str.ofString "ACK", Str.ofString "BEL", Str.ofString "BS", Str.ofString "HT", Str.ofString "LF", Str.ofString "VT", Str.ofString "FF", Str.ofString "CR", Str.ofString "SO", Str.ofString "SI", Str.ofString "DLE", Str.ofString "DC1", Str.ofString "DC2", Str.ofString "DC3", Str.ofString "DC4", Str.ofString "NAK", Str.ofString "SYN", Str.ofString "ETB", Str.ofString "CAN", Str.ofString "EM", Str.ofString "SUB", Str.ofString "ESC", Str.ofString "FS", Str.ofString "GS", Str.ofString "RS", Str.ofString "US", Str.ofString "SP"] : List Str).getD v.toNat Str.empty != (names1 ++ names2).getD v.toNat Str.empty) = true) : False := by
  rw [ctl_eq h0 h1] at e
  exact absurd e (by simp [allNames])
theorem word_ctl {v : Int} (h0 : 0 ≤ v) (h1 : v < 32) : WordOk v (([Str.ofString "NUL", Str.ofString "SOH", Str.ofString "STX", Str.ofString "ETX", Str.ofString "EOT", Str.ofString "ENQ", Str.ofString "ACK", Str.ofString "BEL", Str.ofString "BS", Str.ofString "HT", Str.ofString "LF", Str.ofString "VT", Str.ofString "FF", Str.ofString "CR", Str.ofString "SO", Str.ofString "SI", Str.ofString "DLE", Str.ofString "DC1", Str.ofString "DC2", Str.ofString "DC3", Str.ofString "DC4", Str.ofString "NAK", Str.ofString "SYN", Str.ofString "ETB", Str.ofString "CAN", Str.ofString "EM", Str.ofString "SUB", Str.ofString "ESC", Str.ofString "FS", Str.ofString "GS", Str.ofString "RS", Str.ofString "US", Str.ofString "SP"] : List Str).getD v.toNat Str.empty) := .inl (ctl_eq h0 h1)
theorem stored_ne {z : Str} (h : [Str.ofString "x", Str.ofString "five", Str.ofString "code", Str.ofString "sign"].contains z = false) : z ≠ Str.ofString "x" ∧ z ≠ Str.ofString "five" ∧ z ≠ Str.ofString "code" ∧ z ≠ Str.ofString "sign" := by
  simpa using h
end Mine
namespace Mine
theorem str_no {a b : Nat} (e : a = b) (h : (({ cps := #[a] } : Str) != { cps := #[b] }) = true) : False := by
  subst e
  simp at h
end Mine
namespace Mine
theorem or_tab : ∀ j < 128, 0 ≤ Builtin.bitOr ((j : Nat) : Int) 32 ∧ Builtin.bitOr ((j : Nat) : Int) 32 ≤ 159 ∧ Builtin.bitOr ((j : Nat) : Int) 32 % 32 = ((j : Nat) : Int) % 32 := by decide +kernel
theorem or_facts (x : Int) : 0 ≤ Builtin.bitOr (Builtin.bitAnd x 127) 32 ∧ Builtin.bitOr (Builtin.bitAnd x 127) 32 ≤ 159 ∧ Builtin.bitOr (Builtin.bitAnd x 127) 32 % 32 = x % 32 := by
  rw [bitAnd_m7]
  obtain ⟨j, hj⟩ : ∃ j : Nat, x % 128 = (j : Int) := ⟨(x % 128).toNat, by omega⟩
  have := or_tab j (by omega)
  rw [hj]
  refine ⟨this.1, this.2.1, this.2.2.trans (by omega)⟩
end Mine
namespace Mine
theorem cps_app (a b : Str) : (a ++ b).cps = a.cps ++ b.cps := Str.cps_append a b
theorem cps_bang : (Str.ofString "!").cps = #[33] := by decide +kernel
theorem cps_hat : (Str.ofString "^").cps = #[94] := by decide +kernel
theorem word127b {x v : Int} (hv : x % 32 = v) (h : x = 127) : WordOk v (Str.ofString "!^?") :=
  .inr ⟨[33, 94], 63, .inr (.inr (.inr rfl)), by decide +kernel, by decide, by decide, by subst h; exact hv⟩
theorem word127 {x v : Int} (hv : x % 32 = v) (h : x = 127) : WordOk v (Str.ofString "^?") :=
  .inr ⟨[94], 63, .inr (.inl rfl), by decide +kernel, by decide, by decide, by subst h; exact hv⟩
theorem wordP {x v : Int} (hv : x % 32 = v) (h : 32 ≤ Builtin.bitAnd x 127) : WordOk v { cps := #[(Builtin.bitAnd x 127).toNat] } := by
  rw [bitAnd_m7] at h ⊢
  exact .inr ⟨[], (x % 128).toNat, .inl rfl, rfl, by omega, by omega, by omega⟩
theorem wordPb {x v : Int} (hv : x % 32 = v) (h : 32 ≤ Builtin.bitAnd x 127) : WordOk v (Str.ofString "!" ++ { cps := #[(Builtin.bitAnd x 127).toNat] }) := by
  rw [bitAnd_m7] at h ⊢
  exact .inr ⟨[33], (x % 128).toNat, .inr (.inr (.inl rfl)), by rw [cps_app, cps_bang]; rfl, by omega, by omega, by omega⟩
theorem wordO {x v : Int} (hv : x % 32 = v) : WordOk v (Str.ofString "^" ++ { cps := #[(Builtin.bitOr (Builtin.bitAnd x 127) 32 + 32).toNat] }) := by
  obtain ⟨h0, h1, h2⟩ := or_facts x
  exact .inr ⟨[94], (Builtin.bitOr (Builtin.bitAnd x 127) 32 + 32).toNat, .inr (.inl rfl), by rw [cps_app, cps_hat]; rfl, by omega, by omega, by omega⟩
theorem wordOb {x v : Int} (hv : x % 32 = v) : WordOk v (Str.ofString "!" ++ (Str.ofString "^" ++ { cps := #[(Builtin.bitOr (Builtin.bitAnd x 127) 32 + 32).toNat] })) := by
  obtain ⟨h0, h1, h2⟩ := or_facts x
  exact .inr ⟨[33, 94], (Builtin.bitOr (Builtin.bitAnd x 127) 32 + 32).toNat, .inr (.inr (.inr rfl)), by rw [cps_app, cps_app, cps_bang, cps_hat]; rfl, by omega, by omega, by omega⟩
end Mine
end
section
open PySem PySem.W PyProof.Rows PySem.Calls PySem.Spec
namespace Mine
def fives (N : Int) (many : Nat) : List Int := (List.range many).map (fiveAt N many)
section
variable {prog : Program} {w : World} {A : Around} {E : Value → Shared → Prop} {s : Shared} {env : Env} {h₀ : Heap} {x : Str} {body : List Stmt} {Q : Flow → Shared → Prop}
/-- a loop over a list of texts that the ledger does not name -/
theorem kst_strs {σ : Type} {l : Addr} {vs : List Value} {ys : List Str} {nn : Nat} {m₀ : Str → Option Value} (Led : σ → List (Addr × Obj)) (ps : σ → List (Str × Value)) (Facts : σ → Prop) (stored : List Str) (P : List Int → σ → Prop) (c₀ : σ)
    (hh : A.handled = none) (NL : News h₀ env.locals s.heap ((l, listOf vs.toArray nn) :: Led c₀)) (hlt : ∀ p ∈ Led c₀, p.1 < l) (hi : StrsAre vs ys) (F : Fr h₀ env.locals s.heap m₀) (hf : Facts c₀) (hk : ∀ p ∈ ps c₀, m₀ p.1 = some p.2) (hp : P [] c₀)
    (turn : ∀ (c : σ) (pre : List Int) (y : Str) t (u : Str → Option Value) h tk own, ys[pre.length]? = some y → pre.length < ys.length → OwnOff own ((Led c₀).map (·.1)) → Facts c → P pre c →
      Fr h₀ env.locals h (fun z => if z = x then some (.str y t) else kstB (fun z => if stored.contains z then u z else m₀ z) (ps c) z) → News h₀ env.locals h (Led c ++ own) →
      wpAny (model prog w) A (execs body env) (InvPostN h₀ env.locals (KstS Led ps Facts x stored m₀ P (pre ++ [(pre.length : Int)])) own ((Led c₀).map (·.1)) { s with heap := h, toks := tk } Q) E { s with heap := h, toks := tk })
    (done : ∀ (c : σ) (u : Str → Option Value) h tk, Facts c → P (rangeKs 0 ys.length) c → Fr h₀ env.locals h (fun y => if y = x then u y else kstB (fun z => if stored.contains z then u z else m₀ z) (ps c) y) → News h₀ env.locals h (Led c) → Q .next { s with heap := h, toks := tk }) :
    wpAny (model prog w) A (pyIter (.ref l)) (fun it s₂ => LoopAtV prog w A h₀ env x body Q E it s₂) E s := by
  have N : News h₀ env.locals s.heap (Led c₀) := fun p hp => NL p (List.mem_cons_of_mem _ hp)
  have zl := NL (l, listOf vs.toArray nn) List.mem_cons_self
  have hls : s.heap.IsList l vs.toArray := ⟨_, zl.1, rfl, nn, rfl⟩
  have hne : l ≠ s.heap.objs.size := Nat.ne_of_lt (Heap.lt_size zl.1)
  refine wpAny_pyIter_list hls ?_
  have W := Walks.list (prog := prog) (w := w) hh s.heap.objs.size l hne vs.toArray
  have hsz : vs.toArray.size = ys.length := by simp [hi.len_eq]
  rw [hsz] at W
  refine loop_invN (fun i m nx => KstS Led ps Facts x stored m₀ P ((rangeKs 0 ys.length).take i) m nx) W ?_ ?_ ?_ ?_ ⟨⟨_, Heap.get?_push_size _ rfl, rfl, rfl⟩, hls.push _⟩ (F.push _) (fun p hp => ⟨Heap.get?_push_of_some _ (N p hp).1, (N p hp).2⟩) ⟨c₀, rfl, hf, hk, fun _ _ _ _ => rfl, by simpa using hp⟩ ?_ ?_
  · intro hm
    rcases List.mem_cons.mp hm with e | hm
    · exact absurd F.ns.lt (e ▸ Nat.lt_irrefl _)
    · exact zl.2.1 ((List.mem_singleton.mp hm).symm)
  · intro b hb
    rw [List.mem_singleton.mp hb]
    exact next_is_new F
  · intro p hp hI
    exact absurd (Heap.lt_size (N p hp).1) ((List.mem_singleton.mp hI) ▸ Nat.lt_irrefl _)
  · intro p hp hI
    rcases List.mem_cons.mp hI with e | hI
    · exact absurd (Heap.lt_size (N p hp).1) (e ▸ Nat.lt_irrefl _)
    · exact absurd (hlt p hp) ((List.mem_singleton.mp hI) ▸ Nat.lt_irrefl _)
  · rintro i v m₁ nx h tk own hin hv _ hoff ⟨c, rfl, hf', h1, h2, hp'⟩ F₁ N₁
    obtain ⟨t, ht⟩ := hi.at (j := i) (y := ys[i]) (by simp [hin])
    have hvv : v = .str ys[i] t := by
      have hv' : vs[i]? = some v := by simpa using hv
      rw [ht] at hv'
      exact (Option.some.inj hv').symm
    subst hvv
    have hk' : (rangeKs 0 ys.length)[i]? = some ((i : Int)) := by simp [rangeKs, hin]
    have hlen : ((rangeKs 0 ys.length).take i).length = i := by rw [List.length_take, rangeKs_length]; omega
    have hs : (rangeKs 0 ys.length).take (i + 1) = (rangeKs 0 ys.length).take i ++ [((((rangeKs 0 ys.length).take i).length : Nat) : Int)] := by rw [hlen]; simp [List.take_add_one, hk']
    rw [hs]
    exact turn c _ ys[i] t m₁ h tk own (by rw [hlen]; simp [hin]) (by rw [hlen]; exact hin) hoff hf' hp' (kst_fr h1 h2 F₁) N₁
  · rintro m₁ nx h tk ⟨c, rfl, hf', h1, h2, hp'⟩ F₁ N₁
    have hl : (rangeKs 0 ys.length).take ys.length = rangeKs 0 ys.length := List.take_of_length_le (Nat.le_of_eq (rangeKs_length _ _))
    rw [hl] at hp'
    exact done c m₁ h tk hf' hp' (kst_frOut h1 h2 F₁) N₁
end
section
variable {prog : Program} {w : World} {A : Around} {E : Value → Shared → Prop} {s : Shared} {h₀ : Heap} {L D : Addr} {news : List (Addr × Obj)}
theorem my_join {x : Str} {t : Tok} {vs : List Value} {ys : List Str} {n : Nat} {Q : Value → Shared → Prop} (N : News h₀ L s.heap news) (hm : (D, listOf vs.toArray n) ∈ news) (hi : StrsAre vs ys) (hsep : x.length ≤ 16) (hw : (ys.map (·.length)).sum + ys.length ≤ 1048576)
    (h : ∀ t' k, Q (.str (Str.join x ys) t') { s with toks := k }) : wpAny (model prog w) A (call (.builtin "str.join") [.str x t, .ref D]) Q E s := by
  refine join_listW (News.isList N hm) (by simpa using hi) hsep hw fun t' k => ?_
  have := h t' k
  rw [← StrLaws.glued_eq_join] at this
  exact this
end
/- split after join -/
def jl (c : Nat) : List (List Nat) → List Nat
  | [] => []
  | [x] => x
  | x :: y :: r => x ++ c :: jl c (y :: r)
theorem free_split {c : Nat} : ∀ {x y a b : List Nat}, c ∉ x → c ∉ y → x ++ c :: a = y ++ c :: b → x = y ∧ a = b
  | [], [], a, b, _, _, h => ⟨rfl, (List.cons.inj h).2⟩
  | [], z :: y, a, b, _, hy, h => by
    exfalso
    exact hy ((List.cons.inj h).1 ▸ List.mem_cons_self)
  | z :: x, [], a, b, hx, _, h => by
    exfalso
    exact hx ((List.cons.inj h).1 ▸ List.mem_cons_self)
  | z :: x, z' :: y, a, b, hx, hy, h => by
    have h' := List.cons.inj h
    have := free_split (fun hm => hx (List.mem_cons_of_mem _ hm)) (fun hm => hy (List.mem_cons_of_mem _ hm)) h'.2
    exact ⟨by rw [h'.1, this.1], this.2⟩
theorem jl_inj {c : Nat} : ∀ {A B : List (List Nat)}, A ≠ [] → B ≠ [] → (∀ p ∈ A, c ∉ p) → (∀ p ∈ B, c ∉ p) → jl c A = jl c B → A = B
  | [], _, h, _, _, _, _ => absurd rfl h
  | _, [], _, h, _, _, _ => absurd rfl h
  | [x], [y], _, _, _, _, h => by have : x = y := h
                                  rw [this]
  | [x], y :: z :: r, _, _, hA, _, h => by
    exfalso
    have e : x = y ++ c :: jl c (z :: r) := h
    exact hA x List.mem_cons_self (e ▸ List.mem_append_right _ List.mem_cons_self)
  | x :: z :: r, [y], _, _, _, hB, h => by
    exfalso
    have e : x ++ c :: jl c (z :: r) = y := h
    exact hB y List.mem_cons_self (e ▸ List.mem_append_right _ List.mem_cons_self)
  | x :: x2 :: r, y :: y2 :: r', _, _, hA, hB, h => by
    have e : x ++ c :: jl c (x2 :: r) = y ++ c :: jl c (y2 :: r') := h
    obtain ⟨e1, e2⟩ := free_split (hA x List.mem_cons_self) (hB y List.mem_cons_self) e
    have := jl_inj (List.cons_ne_nil _ _) (List.cons_ne_nil _ _) (fun p hp => hA p (List.mem_cons_of_mem _ hp)) (fun p hp => hB p (List.mem_cons_of_mem _ hp)) e2
    rw [e1, this]
theorem join_jl (c : Nat) : ∀ A : List Str, (Str.join ⟨#[c]⟩ A).cps.toList = jl c (A.map fun p => p.cps.toList)
  | [] => rfl
  | [x] => rfl
  | x :: y :: r => by
    show (x ++ (⟨#[c]⟩ : Str) ++ Str.join ⟨#[c]⟩ (y :: r)).cps.toList = _
    rw [cps_app, cps_app, Array.toList_append, Array.toList_append, join_jl c (y :: r)]
    show x.cps.toList ++ [c] ++ _ = x.cps.toList ++ c :: _
    simp
theorem cps_map_inj : ∀ {A B : List Str}, A.map (fun p => p.cps.toList) = B.map (fun p => p.cps.toList) → A = B
  | [], [], _ => rfl
  | [], _ :: _, h => by simp at h
  | _ :: _, [], h => by simp at h
  | x :: A, y :: B, h => by
    have h' := List.cons.inj h
    rw [cps_map_inj h'.2, Str.ext' (Array.toList_inj.mp h'.1)]
theorem split_join {c : Nat} {ss : List Str} (h0 : ss ≠ []) (hf : ∀ p ∈ ss, c ∉ p.cps.toList) (hn : ∀ p ∈ ss, p.cps.toList ≠ []) : Txt.split (Str.join ⟨#[c]⟩ ss) ⟨#[c]⟩ = ss := by
  have e := StrLaws.join_split (Str.join ⟨#[c]⟩ ss) ⟨#[c]⟩
  have e1 := congrArg (fun p : Str => p.cps.toList) e
  simp only [join_jl] at e1
  have hs0 : Txt.split (Str.join ⟨#[c]⟩ ss) ⟨#[c]⟩ ≠ [] := by
    intro hs
    rw [hs] at e1
    cases ss with
    | nil => exact h0 rfl
    | cons a r =>
      have ha := hn a List.mem_cons_self
      cases r with
      | nil => exact ha e1.symm
      | cons b r =>
        have e2 : [] = a.cps.toList ++ c :: jl c (b.cps.toList :: r.map fun p => p.cps.toList) := e1
        cases hc : a.cps.toList with
        | nil => exact ha hc
        | cons z y => rw [hc] at e2; simp at e2
  refine cps_map_inj (jl_inj (c := c) (by simpa using hs0) (by simpa using h0) ?_ ?_ e1)
  · intro p hp
    obtain ⟨q, hq, rfl⟩ := List.mem_map.mp hp
    exact StrLaws.split_free _ c q hq
  · intro p hp
    obtain ⟨q, hq, rfl⟩ := List.mem_map.mp hp
    exact hf q hq
theorem names_tab : ∀ j < 32, 10 ∉ (allNames.getD j Str.empty).cps.toList ∧ (allNames.getD j Str.empty).cps.toList ≠ [] ∧ (allNames.getD j Str.empty).cps.toList.length ≤ 3 := by decide +kernel
theorem word_facts {v : Int} {p : Str} (h0 : 0 ≤ v) (h1 : v < 32) (h : WordOk v p) : 10 ∉ p.cps.toList ∧ p.cps.toList ≠ [] ∧ p.cps.toList.length ≤ 3 := by
  rcases h with rfl | ⟨pre, c, hp, hc, h10, _, _⟩
  · exact names_tab v.toNat (by omega)
  · rw [hc]
    rcases hp with rfl | rfl | rfl | rfl
    · refine ⟨?_, by simp, by simp⟩
      simp; omega
    · refine ⟨?_, by simp, by simp⟩
      simp; omega
    · refine ⟨?_, by simp, by simp⟩
      simp; omega
    · refine ⟨?_, by simp, by simp⟩
      simp; omega
theorem words_all {N : Int} {many : Nat} {ss : List Str} (h : WordsOk N many ss) : ∀ p ∈ ss, 10 ∉ p.cps.toList ∧ p.cps.toList ≠ [] ∧ p.cps.toList.length ≤ 3 := by
  intro p hp
  obtain ⟨i, hi, rfl⟩ := List.mem_iff_getElem.mp hp
  have := h i hi
  rw [List.getD_eq_getElem?_getD, List.getElem?_eq_getElem hi] at this
  exact word_facts (five_range N many i).1 (five_range N many i).2 this
theorem words_split {N : Int} {many : Nat} {ss : List Str} (h : WordsOk N many ss) (hl : 0 < ss.length) : Txt.split (Str.join ⟨#[10]⟩ ss) (Str.ofString "\n") = ss := by
  have e : Str.ofString "\n" = ⟨#[10]⟩ := by decide +kernel
  rw [e]
  exact split_join (by intro e; rw [e] at hl; exact Nat.lt_irrefl 0 hl) (fun p hp => (words_all h p hp).1) (fun p hp => (words_all h p hp).2.1)
theorem words_sum {N : Int} {many : Nat} {ss : List Str} (h : WordsOk N many ss) : (ss.map (·.length)).sum ≤ 3 * ss.length := by
  have : ∀ l : List Str, (∀ p ∈ l, p.length ≤ 3) → (l.map (·.length)).sum ≤ 3 * l.length := by
    intro l
    induction l with
    | nil => intro _; simp
    | cons a r ih =>
      intro hl
      have h1 := hl a List.mem_cons_self
      have h2 := ih fun p hp => hl p (List.mem_cons_of_mem _ hp)
      rw [List.map_cons, List.sum_cons, List.length_cons]
      omega
  refine this ss fun p hp => ?_
  have := (words_all h p hp).2.2
  rw [Array.length_toList] at this
  exact this
end Mine
end
section
open PySem PySem.W PyProof.Rows PySem.Calls PySem.Spec
namespace Mine
theorem names_apart : ∀ j < 32, ∀ i < j, allNames.getD i Str.empty ≠ allNames.getD j Str.empty := by decide +kernel
theorem worths_tab : ∀ j < 32, (worths1 ++ worths2).getD j 0 = ((j : Nat) : Int) := by decide +kernel
theorem worths_at {v : Int} (h0 : 0 ≤ v) (h1 : v < 32) : (worths1 ++ worths2).getD v.toNat 0 = v := by
  rw [worths_tab v.toNat (by omega)]; omega
theorem names_head : ∀ x ∈ allNames, 2 ≤ x.cps.toList.length ∧ 65 ≤ x.cps.toList.headD 0 ∧ x.cps.toList.headD 0 ≤ 90 := by decide +kernel
theorem not_name {pre : List Nat} {c : Nat} {wd : Str} (hp : pre = [] ∨ pre = [94] ∨ pre = [33] ∨ pre = [33, 94]) (hc : wd.cps = (pre ++ [c]).toArray) (e : ((names1 ++ names2).any fun x => x == wd) = true) : False := by
  obtain ⟨x, hx, hx1⟩ := List.any_eq_true.mp e
  have hxe : x = wd := by simpa using hx1
  subst hxe
  have h := names_head x hx
  rw [hc] at h
  rcases hp with rfl | rfl | rfl | rfl
  · simp at h
  · simp at h
  · simp at h
  · simp at h
theorem is_name {v : Int} (h0 : 0 ≤ v) (h1 : v < 32) (e : ((names1 ++ names2).any fun x => x == allNames.getD v.toNat Str.empty) = false) : False := by
  have hl : v.toNat < allNames.length := by show v.toNat < 32; omega
  have : ((names1 ++ names2).any fun x => x == allNames.getD v.toNat Str.empty) = true := by
    refine List.any_eq_true.mpr ⟨allNames.getD v.toNat Str.empty, ?_, by simp⟩
    rw [List.getD_eq_getElem?_getD, List.getElem?_eq_getElem hl]
    exact List.getElem_mem hl
  rw [this] at e
  exact Bool.noConfusion e
section
variable {prog : Program} {w : World} {A : Around} {E : Value → Shared → Prop} {s : Shared} {h₀ : Heap} {L D : Addr} {news : List (Addr × Obj)}
theorem strs_index {vs : List Value} {ys : List Str} {n j : Nat} {wd : Str} {t : Tok} {Q : Value → Shared → Prop} (N : News h₀ L s.heap news) (hm : (D, listOf vs.toArray n) ∈ news) (hi : StrsAre vs ys) (hl : ys.length ≤ 1000)
    (hit : ys[j]? = some wd) (hno : ∀ i < j, ys[i]? ≠ some wd) (h : Q (.int j s.toks) { s with toks := s.toks + 1 }) : wpAny (model prog w) A (call (.builtin "list.index") [.ref D, .str wd t]) Q E s := by
  have hj : j < ys.length := (List.getElem?_eq_some_iff.mp hit).1
  have hv : vs.length = ys.length := hi.len_eq
  have at' : ∀ i (hi' : i < vs.length), isStrOf wd vs[i] = (ys[i]? == some wd) := by
    intro i hi'
    obtain ⟨t', ht⟩ := hi.at (j := i) (y := ys[i]'(by omega)) (by simp)
    have e : vs[i] = .str (ys[i]'(by omega)) t' := by
      rw [List.getElem?_eq_getElem hi'] at ht
      exact Option.some.inj ht
    rw [e, List.getElem?_eq_getElem (by omega)]
    rfl
  refine call_meets PySem.F.slot_list_index ⟨_, (N _ hm).1, rfl⟩ PySem.F.entry_list_index (PySem.F.args_list_index_2 _ _)
    (MeetsSeq.list_index D vs.toArray n (.str wd t) (isStrOf wd) (fun y hy => eq_isStrOf wd t hi y (by simpa using hy)) j (by simp; omega) (by omega) ?_ ?_) ⟨(N _ hm).1, h⟩
  · show isStrOf wd (vs.toArray[j]'_) = true
    rw [List.getElem_toArray, at' j (by omega), hit]
    simp
  · intro i hi' hlt
    show isStrOf wd (vs.toArray[i]'_) = false
    rw [List.getElem_toArray, at' i (by simpa using hi')]
    simpa using hno i hlt
theorem my_index {vs : List Value} {n : Nat} {v : Int} {t : Tok} {Q : Value → Shared → Prop} (N : News h₀ L s.heap news) (hm : (D, listOf vs.toArray n) ∈ news) (hi : StrsAre vs (names1 ++ names2)) (h0 : 0 ≤ v) (h1 : v < 32)
    (h : Q (.int v s.toks) { s with toks := s.toks + 1 }) : wpAny (model prog w) A (call (.builtin "list.index") [.ref D, .str (allNames.getD v.toNat Str.empty) t]) Q E s := by
  have hl : allNames.length = 32 := rfl
  have get : ∀ i, i < 32 → allNames[i]? = some (allNames.getD i Str.empty) := by
    intro i hi'
    rw [List.getD_eq_getElem?_getD, List.getElem?_eq_getElem (by omega)]; rfl
  refine strs_index (j := v.toNat) N hm hi (by show allNames.length ≤ 1000; omega) (get _ (by omega)) (fun i hlt => ?_) ?_
  · show allNames[i]? ≠ _
    rw [get i (by omega)]
    intro e
    exact names_apart v.toNat (by omega) i hlt (Option.some.inj e)
  · have e : ((v.toNat : Nat) : Int) = v := by omega
    rw [e]; exact h
theorem my_last {value slice : PySem.Expr} {pre : List Nat} {c : Nat} {wd : Str} {t u : Tok} {Q : Value → Shared → Prop} (hp : pre = [] ∨ pre = [94] ∨ pre = [33] ∨ pre = [33, 94]) (hc : wd.cps = (pre ++ [c]).toArray)
    (h : Q (.str ⟨#[c]⟩ s.toks) { s with toks := s.toks + 1 })
    (hs : subscripted slice false (.str wd t) (.int (-1) u) = operate [.str wd t, .int (-1) u] (getItem (.str wd t) (.int (-1) u)) := by with_unfolding_all rfl)
    (ht : ∀ r, letTemporaryGo value (.str wd t) r = pure () := by intro _; with_unfolding_all rfl) :
    wpAny (model prog w) A (subscriptTail value slice (.str wd t) (.int (-1) u)) Q E s := by
  have e : wd = ⟨(pre ++ [c]).toArray⟩ := Str.ext' hc
  have e1 : Txt.item wd (-1) = ⟨#[c]⟩ := by
    rw [e]
    rcases hp with rfl | rfl | rfl | rfl <;> rfl
  have hn : wd.length = pre.length + 1 := by rw [e]; show (pre ++ [c]).toArray.size = _; simp
  have hp2 : pre.length ≤ 2 := by rcases hp with rfl | rfl | rfl | rfl <;> decide
  refine KXi.item hn (by omega) (by omega) (by omega) (fun _ => ?_) hs ht
  rw [e1]; exact h
end
theorem range_snoc (f : Nat → Int) (n : Nat) : (List.range (n + 1)).map f = (List.range n).map f ++ [f n] := by
  rw [List.range_succ, List.map_append]; rfl
theorem ints_next {wz : List Value} {f : Nat → Int} {pre : List Int} {z x : Int} {t : Tok} (h : IntsAre wz ((List.range pre.length).map f)) (e : f pre.length = x) : IntsAre (wz ++ [.int x t]) ((List.range (pre ++ [z]).length).map f) := by
  rw [List.length_append, List.length_singleton, range_snoc, e]
  exact ints_append h (.cons x t .nil)
/- the fives make the number -/
theorem num_fives {N : Int} (h0 : 0 ≤ N) : ∀ {many : Nat}, N < 32 ^ many → num 32 (fives N many) = N := by
  have key : ∀ (many k : Nat), k ≤ many → num 32 ((List.range k).map (fiveAt N many)) = N / 32 ^ (many - k) % 32 ^ k := by
    intro many k
    induction k with
    | zero => intro _; show 0 = N / 32 ^ many % 1; omega
    | succ k ih =>
      intro hk
      rw [range_snoc, num_snoc, ih (by omega)]
      have e1 : many - k = (many - (k + 1)) + 1 := by omega
      have e2 : many - 1 - k = many - (k + 1) := by omega
      unfold fiveAt
      rw [e1, e2, Int.pow_succ, ← Int.ediv_ediv_of_nonneg (Int.le_of_lt (pow32_pos _))]
      generalize N / 32 ^ (many - (k + 1)) = M
      have hp := pow32_pos k
      rw [Int.pow_succ]
      generalize (32 : Int) ^ k = p at hp
      have h1 := Int.mul_ediv_add_emod M 32
      have h2 := Int.mul_ediv_add_emod (M / 32) p
      have h3 : M = p * 32 * (M / 32 / p) + ((M / 32 % p) * 32 + M % 32) := by
        have : 32 * (p * (M / 32 / p)) = p * 32 * (M / 32 / p) := by rw [← Int.mul_assoc, Int.mul_comm 32 p]
        omega
      have hr0 := Int.emod_nonneg (M / 32) (show p ≠ 0 by omega)
      have hr1 := Int.emod_lt_of_pos (M / 32) hp
      have hlt : (M / 32 % p) * 32 + M % 32 < p * 32 := by omega
      have hge : 0 ≤ (M / 32 % p) * 32 + M % 32 := by omega
      calc (M / 32 % p) * 32 + M % 32 = ((M / 32 % p) * 32 + M % 32) % (p * 32) := (Int.emod_eq_of_lt hge hlt).symm
        _ = (p * 32 * (M / 32 / p) + ((M / 32 % p) * 32 + M % 32)) % (p * 32) := by rw [Int.mul_add_emod_self_left]
        _ = M % (p * 32) := by rw [← h3]
  intro many h1
  have := key many many (Nat.le_refl _)
  rw [Nat.sub_self, Int.pow_zero, Int.ediv_one, Int.emod_eq_of_lt h0 h1] at this
  exact this
end Mine
namespace Mine
theorem mulOk_row {r : List Int} {lack : Nat} (h : KBa.In r) (hq : r.length ≤ 7) (hl : lack ≤ 4) : IntMulOk (num 256 r) (2 ^ Int.toNat (lack : Int)) := by
  have h1 := num_range 256 (by decide) r h
  have h2 : (256 : Int) ^ r.length ≤ 2 ^ 56 := by
    have : (256 : Int) ^ r.length = 2 ^ (8 * r.length) := by rw [Int.pow_mul]; rfl
    rw [this]
    exact pow2_le (by omega)
  refine PyProof.Rows.mulOk_of_bits (m := 56) (n := 5) (bits_of h1.1 (Int.lt_of_lt_of_le h1.2 h2)) (bits_of (Int.le_of_lt (kbt_pos _)) ?_) (by decide)
  rw [Int.toNat_natCast]
  exact Int.lt_of_le_of_lt (pow2_le hl) (show (2 : Int) ^ 4 < 2 ^ 5 by decide)
end Mine
end
namespace Mine
open_top hd for PySem.Challenge.rw_mg0023_01
end Mine
open Mine
local macro_rules | `(tactic| walk_at "my_steps") => `(tactic| repeat' (first | (k_unfold; (try dsimp only)) | ((fail_if_success (with_reducible show InvPostN _ _ _ _ _ _ _ _ _)); (first | walk1 | (dsimp only; walk1) | (leave1; try dsimp only))) | fail "no step"))
local macro_rules | `(tactic| walk_at "my_in") => `(tactic| (first | kst_in | kst_inAny))
local macro_rules | `(tactic| walk_at "inplaceOp Add ref ref") => `(tactic| (k_here; k_dflt (refine' Mine.my_iadd ?F ?N ?b ?ne ?U ?d ?_; (case F => k_asm); (case N => k_asm); (case b => k_mem); (case U => k_upd); (case ne => first | exact Nat.zero_lt_succ _ | assumption | (rw [‹List.length (strValues _) = _›]; decide +kernel)); (case d => first | decide | assumption | (rw [‹List.length (strValues _) = _›]; exact Nat.le_trans (Nat.add_le_add_left (show _ ≤ 16 by decide +kernel) _) (by assumption)))); kl_rest))
local macro_rules | `(tactic| walk_at "call builtin:str.split") => `(tactic| (k_here; (with_reducible show wpAny _ _ (call (Value.builtin "str.split") [_, _]) _ _ _); refine KSpl.split1 (by k_asm) (by k_asm) (by decide) ?_ (by first | kspl_size | assumption); (intro D' l' h' k' e' a' F' N' l1); (try k_lt l1); (have q9 := Mine.values_len e')))
local macro_rules | `(tactic| walk_at "my_stepsTo" ) => `(tactic| repeat' (first | (k_unfold; (try dsimp only)) | ((fail_if_success (with_reducible show wpAny _ _ (execs (Stmt.Assign [Expr.Name (Str.ofString "bin_data") _] _ _ :: _) _) _ _ _)); (first | walk1 | (dsimp only; walk1) | (leave1; try dsimp only))) | fail "no step"))
local macro_rules | `(tactic| walk_at "my_stepsFor" ) => `(tactic| repeat' (first | (k_unfold; (try dsimp only)) | ((fail_if_success (with_reducible show wpAny _ _ (execs (Stmt.For _ _ _ _ _ :: _) _) _ _ _)); (first | walk1 | (dsimp only; walk1) | (leave1; try dsimp only))) | fail "no step"))
local macro_rules | `(tactic| walk_at "call type:type") => `(tactic| (k_here; (with_reducible show wpAny _ _ (call _ [Value.bytes _ _]) _ _ _); refine call_type_of (Tx := "bytes") rfl (by decide +kernel) ?_))
local macro_rules | `(tactic| walk_at "subscriptTail") => `(tactic| (k_here; (with_reducible show wpAny _ _ (subscriptTail _ _ (Value.bytes (List.toArray _) _) (Value.int _ _)) _ _ _); k_dflt (refine' Mine.b64_item ?x ?a ?b ?_; (case x => rfl); (case a => first | exact (Mine.and63 _).1 | exact (Mine.and3s _).1 | exact (Mine.and15s _).1); (case b => first | exact (Mine.and63 _).2 | exact (Mine.and3s _).2 | exact (Mine.and15s _).2); k_whole)))
local macro_rules | `(tactic| walk_at "binaryOp LShift int int") => `(tactic| (k_here; (with_reducible show wpAny _ _ (binaryOp Operator.LShift (Value.int (Builtin.bitAnd _ _) _) (Value.int _ _)) _ _ _); refine lshift_int_small (by decide) (by decide) (by first | exact Mine.and3_small _ | exact Mine.and15_small _) ?_))
local macro_rules | `(tactic| walk_at "my_stepsC") => `(tactic| repeat' (first | (k_unfold; (try dsimp only)) | ((fail_if_success (with_reducible show LCg.CompEnd _ _ _ _ _ _ _ _ _ _ _ _ _ _)); (first | walk1 | (dsimp only; walk1) | (leave1; try dsimp only))) | fail "no step"))
local macro_rules | `(tactic| walk_at "getMethod bytes") => `(tactic| (k_here; (with_reducible show wpAny _ _ (getMethod (Value.bytes _ _) (Str.ofString "find") _) _ _ _); refine Mine.my_find_method ?_))
local macro_rules | `(tactic| walk_at "call builtin:bytes.find") => `(tactic| (k_here; refine Mine.my_find (by assumption) (by assumption) ?_))
local macro_rules | `(tactic| walk_at "binaryOp Mult int int") => `(tactic| (k_here; (with_reducible refine mul_int ?_ (by with_reducible assumption))))
local macro_rules | `(tactic| walk_at "my_stepsR" ) => `(tactic| repeat' (first | (k_unfold; (try dsimp only)) | ((fail_if_success (with_reducible show wpAny _ _ (pyIter (Value.ref _)) _ _ _)); (fail_if_success (with_reducible show wpAny _ _ (exec (Stmt.For _ _ _ _ _) _) _ _ _)); (first | walk1 | (dsimp only; walk1) | (leave1; try dsimp only))) | fail "no step"))
local macro_rules | `(tactic| walk_at "my_stepsI") => `(tactic| repeat' (first | (k_unfold; (try dsimp only)) | ((fail_if_success (with_reducible show InvPostN _ _ _ _ _ _ _ _ _)); (fail_if_success (with_reducible show wpAny _ _ (execs (Stmt.If _ _ _ _ :: _) _) _ _ _)); (fail_if_success (with_reducible show wpAny _ _ (execs (Stmt.Assign _ _ _ :: _) _) _ _ _)); (first | walk1 | (dsimp only; walk1) | (leave1; try dsimp only))) | fail "no step"))
local macro_rules | `(tactic| walk_at "subscriptTail") => `(tactic| (k_here; (with_reducible show wpAny _ _ (subscriptTail _ _ (Value.ref _) (Value.int _ _)) _ _ _); k_dflt (refine' Mine.strs_item ?N ?m ?i ?a ?b ?c ?_; (case N => k_asm); (case m => k_mem); (case i => with_reducible assumption); (case a => omega); (case b => omega); (case c => omega); k_whole); intro _))
local macro_rules | `(tactic| walk_at "call builtin:str.join") => `(tactic| (k_here; (with_reducible show wpAny _ _ (call (Value.builtin "str.join") [Value.str _ _, Value.ref _]) _ _ _); k_dflt (refine' Mine.my_join ?N ?m ?i ?a ?b ?_; (case N => k_asm); (case m => k_mem); (case i => with_reducible assumption); (case a => exact Nat.le_of_ble_eq_true rfl); (case b => assumption); k_whole); intro _ _))
local macro_rules | `(tactic| walk_at "call builtin:list.index") => `(tactic| (k_here; (with_reducible show wpAny _ _ (call (Value.builtin "list.index") [Value.ref _, Value.str (List.getD Mine.allNames _ _) _]) _ _ _); k_dflt (refine' Mine.my_index ?N ?m ?i ?a ?b ?_; (case N => k_asm); (case m => k_mem); (case i => with_reducible assumption); (case a => assumption); (case b => assumption); k_whole)))
local macro_rules | `(tactic| walk_at "subscriptTail") => `(tactic| (k_here; (with_reducible show wpAny _ _ (subscriptTail _ _ (Value.str _ _) (Value.int (-1) _)) _ _ _); k_dflt (refine' Mine.my_last ?p ?c ?_; (case p => with_reducible assumption); (case c => with_reducible assumption); k_whole)))
theorem Mine.law_holds : PySem.Challenge.rw_mg0023_01.Holds := by
  refine Mine.hd ?_
  w_on
  w_strict (k_go0; (all_goals try k_fold))
  rename_i w s₀ s₁ mg mb G Y fa o pm doc ho hg KX X V GL T B TE TW wa wo M cdA w7 hcd ns0 hs hlay0 hLay hr hl2 as1 as2 lst ws0 as3 hLst ra w1 r0 hI0 hr2 hc1 hc2 K0 hD h₁ tk₁ F co hco N0 X0
  have hco' : co.data = .cell none := hco
  have F1 := Mine.fr_eq F (m' := fun y => if y = Str.ofString "script" then some (.ref lst) else none) (fun y => by rfl)
  clear F hco X0
  dsimp only
  refine cut (fun s => ∃ D ws ns n, At s₁ s₁.heap s₁.heap.objs.size (fun y => if y = Str.ofString "numbers" then some (.ref D) else if y = Str.ofString "script" then some (.ref lst) else none) [(D, listOf ws.toArray n), (s₁.heap.objs.size + 1, co)] s ∧ s₁.heap.objs.size + 1 < D ∧ IntsAre ws ns ∧ 0 < ns.length ∧ ns.length ≤ 7 ∧ (∀ x ∈ ns, Builtin.Int.intBits x ≤ 1048576)) ?_ ?_
  · try k_fold
    walk_at "my_steps"
    · exact ⟨rfl, _, _, _, _, At.intro (by assumption) (by assumption) (fun y => by rfl) (by walk_at "my_in"), by omega, by assumption, by omega, by omega, fun x hx => intBits_le_of_item (List.mem_of_mem_take hx) hLay⟩
    · exact ⟨rfl, _, _, _, _, At.intro (by assumption) (by assumption) (fun y => by rfl) (by walk_at "my_in"), by omega, .cons _ _ (.cons _ _ (.cons _ _ .nil)), by decide, by decide, by decide⟩
  clear F1 N0
  rintro _ ⟨D, ws, ns, n1, ⟨h2, tk2, rfl, F2, N2⟩, lD, hI, hn0, hn7, hBits⟩
  clear hLst ra r0 w1 hI0 hr2 hs hLay hlay0 hr hl2 hc1 hc2
  refine cut (fun s => ∃ tz, At s₁ s₁.heap s₁.heap.objs.size (fun y => if y = Str.ofString "size" then some (.int ns.length tz) else if y = Str.ofString "numbers" then some (.ref D) else if y = Str.ofString "script" then some (.ref lst) else none) [(D, listOf ws.toArray n1), (s₁.heap.objs.size + 1, co)] s) ?_ ?_
  · try k_fold
    walk_at "my_steps"
    exact ⟨rfl, _, At.intro (by assumption) (by assumption) (fun y => by rfl) (by walk_at "my_in")⟩
  clear F2 N2
  rintro _ ⟨tz, h3, tk3, rfl, F3, N3⟩
  refine cut (fun s => ∃ Dr wr nr, At s₁ s₁.heap s₁.heap.objs.size (fun y => if y = Str.ofString "row" then some (.ref Dr) else if y = Str.ofString "size" then some (.int ns.length tz) else if y = Str.ofString "numbers" then some (.ref D) else if y = Str.ofString "script" then some (.ref lst) else none) [(Dr, listOf wr.toArray nr), (D, listOf ws.toArray n1), (s₁.heap.objs.size + 1, co)] s ∧ @Ne Nat (D) ( Dr) ∧ @Ne Nat (s₁.heap.objs.size + 1) ( Dr) ∧ IntsAre wr (ns.map fun x => x.fmod 256)) ?_ ?_
  · try k_fold
    walk_at "my_steps"
    exact ⟨rfl, _, _, _, At.intro (by assumption) (by assumption) (fun y => by rfl) (by walk_at "my_in"), by omega, by omega, by assumption⟩
  clear F3 N3
  rintro _ ⟨Dr, wr, nr, ⟨h4, tk4, rfl, F4, N4⟩, lDr, lDr2, hIr⟩
  refine cut (fun s => ∃ Dw ww nw, At s₁ s₁.heap s₁.heap.objs.size (fun y => if y = Str.ofString "worths" then some (.ref Dw) else if y = Str.ofString "row" then some (.ref Dr) else if y = Str.ofString "size" then some (.int ns.length tz) else if y = Str.ofString "numbers" then some (.ref D) else if y = Str.ofString "script" then some (.ref lst) else none) [(Dw, listOf ww.toArray nw), (Dr, listOf wr.toArray nr), (D, listOf ws.toArray n1), (s₁.heap.objs.size + 1, co)] s ∧ @LT.lt Nat _ (Dr) ( Dw) ∧ @LT.lt Nat _ (D) ( Dw) ∧ @LT.lt Nat _ (s₁.heap.objs.size + 1) ( Dw) ∧ IntsAre ww worths1) ?_ ?_
  · try k_fold
    walk_at "my_steps"
    exact ⟨rfl, _, _, _, At.intro (by assumption) (by assumption) (fun y => by rfl) (by walk_at "my_in"), by omega, by omega, by omega, by repeat constructor⟩
  clear F4 N4
  rintro _ ⟨Dw, ww, nw, ⟨h5, tk5, rfl, F5, N5⟩, lDw, lDw2, lDw3, hIw⟩
  refine cut (fun s => ∃ wv nv, At s₁ s₁.heap s₁.heap.objs.size (fun y => if y = Str.ofString "worths" then some (.ref Dw) else if y = Str.ofString "row" then some (.ref Dr) else if y = Str.ofString "size" then some (.int ns.length tz) else if y = Str.ofString "numbers" then some (.ref D) else if y = Str.ofString "script" then some (.ref lst) else none) [(Dw, listOf wv.toArray nv), (Dr, listOf wr.toArray nr), (D, listOf ws.toArray n1), (s₁.heap.objs.size + 1, co)] s ∧ IntsAre wv (worths1 ++ worths2)) ?_ ?_
  · have hlw : ww.length + 16 ≤ 1000 := by rw [hIw.length]; decide
    try k_fold
    walk_at "my_steps"
    exact ⟨rfl, _, _, At.intro (by assumption) (by assumption) (fun y => by (try split) <;> rfl) (by walk_at "my_in"), ints_append hIw (by repeat constructor)⟩
  clear F5 N5
  rintro _ ⟨wv, nv, ⟨h6, tk6, rfl, F6, N6⟩, hIv⟩
  refine cut (fun s => ∃ Dn wn nn, At s₁ s₁.heap s₁.heap.objs.size (fun y => if y = Str.ofString "names" then some (.ref Dn) else if y = Str.ofString "worths" then some (.ref Dw) else if y = Str.ofString "row" then some (.ref Dr) else if y = Str.ofString "size" then some (.int ns.length tz) else if y = Str.ofString "numbers" then some (.ref D) else if y = Str.ofString "script" then some (.ref lst) else none) [(Dn, listOf wn.toArray nn), (Dw, listOf wv.toArray nv), (Dr, listOf wr.toArray nr), (D, listOf ws.toArray n1), (s₁.heap.objs.size + 1, co)] s ∧ StrsAre wn names1 ∧ @LT.lt Nat _ (Dw) ( Dn) ∧ @LT.lt Nat _ (Dr) ( Dn) ∧ @LT.lt Nat _ (D) ( Dn) ∧ @LT.lt Nat _ (s₁.heap.objs.size + 1) ( Dn)) ?_ ?_
  · try k_fold
    walk_at "my_steps"
    exact ⟨rfl, _, _, _, At.intro (by assumption) (by assumption) (fun y => by rfl) (by walk_at "my_in"), strs_as (by assumption) (Eq.trans (by assumption) split_names1), by omega, by omega, by omega, by omega⟩
  clear F6 N6
  rintro _ ⟨Dn, wn, nn, ⟨h7, tk7, rfl, F7, N7⟩, hSn, lDn, lDn2, lDn3, lDn4⟩
  refine cut (fun s => ∃ wm nm, At s₁ s₁.heap s₁.heap.objs.size (fun y => if y = Str.ofString "names" then some (.ref Dn) else if y = Str.ofString "worths" then some (.ref Dw) else if y = Str.ofString "row" then some (.ref Dr) else if y = Str.ofString "size" then some (.int ns.length tz) else if y = Str.ofString "numbers" then some (.ref D) else if y = Str.ofString "script" then some (.ref lst) else none) [(Dn, listOf wm.toArray nm), (Dw, listOf wv.toArray nv), (Dr, listOf wr.toArray nr), (D, listOf ws.toArray n1), (s₁.heap.objs.size + 1, co)] s ∧ StrsAre wm (names1 ++ names2)) ?_ ?_
  · have hlw : wn.length + 16 ≤ 1000 := by rw [hSn.length]; decide
    try k_fold
    walk_at "my_steps"
    exact ⟨rfl, _, _, At.intro (by assumption) (by assumption) (fun y => by (try split) <;> rfl) (by walk_at "my_in"), strs_append hSn (strs_as (by assumption) (Eq.trans (by assumption) split_names2))⟩
  clear F7 N7
  rintro _ ⟨wm, nm, ⟨h8, tk8, rfl, F8, N8⟩, hSm⟩
  refine cut (fun s => ∃ b tb q, At s₁ s₁.heap s₁.heap.objs.size (fun y => if y = Str.ofString "writing" then some (.bytes b tb) else if y = Str.ofString "names" then some (.ref Dn) else if y = Str.ofString "worths" then some (.ref Dw) else if y = Str.ofString "row" then some (.ref Dr) else if y = Str.ofString "size" then some (.int ns.length tz) else if y = Str.ofString "numbers" then some (.ref D) else if y = Str.ofString "script" then some (.ref lst) else none) [(Dn, listOf wm.toArray nm), (Dw, listOf wv.toArray nv), (Dr, listOf wr.toArray nr), (D, listOf ws.toArray n1), (s₁.heap.objs.size + 1, co)] s ∧ B64Ok (ns.map fun x => x.fmod 256) q b) ?_ ?_
  try k_fold
  focus (walk_at "my_stepsTo")
  rename_i ga La ha FGa Fa Na Ba Xa Ta lGa
  obtain ⟨m0, t', Fd⟩ : ∃ (m0 : Str → Option Value) (t' : Tok), Fr ga La ha (fun y => if y = Str.ofString "data" then some (.bytes (byteArr (ns.map fun x => x.fmod 256)) t') else if y = Str.ofString "newline" then some (.bool false) else m0 y) := ⟨_, _, fr_over (Str.ofString "data") (fr_over (Str.ofString "newline") Fa rfl) rfl⟩
  clear Fa
  refine cut (fun s => At s₁ ga La (fun y => if y = Str.ofString "bin_data" then some (.bytes (byteArr (ns.map fun x => x.fmod 256)) t') else if y = Str.ofString "data" then some (.bytes (byteArr (ns.map fun x => x.fmod 256)) t') else if y = Str.ofString "newline" then some (.bool false) else (m0) y) [(Dn, listOf wm.toArray nm), (Dw, listOf wv.toArray nv), (Dr, listOf wr.toArray nr), (D, listOf ws.toArray n1), (s₁.heap.objs.size + 1, co)] s) ?_ ?_
  · try k_fold
    walk_at "my_steps"
    exact ⟨rfl, At.intro (by assumption) (by assumption) (fun y => by rfl) (by walk_at "my_in")⟩
  clear Fd Na
  rintro _ ⟨hb, tkb, rfl, Fb, Nb⟩
  refine cut (fun s => At s₁ ga La (fun y => if y = Str.ofString "newline" then some (.bool false) else if y = Str.ofString "bin_data" then some (.bytes (byteArr (ns.map fun x => x.fmod 256)) t') else if y = Str.ofString "data" then some (.bytes (byteArr (ns.map fun x => x.fmod 256)) t') else if y = Str.ofString "newline" then some (.bool false) else (m0) y) [(Dn, listOf wm.toArray nm), (Dw, listOf wv.toArray nv), (Dr, listOf wr.toArray nr), (D, listOf ws.toArray n1), (s₁.heap.objs.size + 1, co)] s) ?_ ?_
  · try k_fold
    walk_at "my_steps"
    exact ⟨rfl, At.intro (by assumption) (by assumption) (fun y => by rfl) (by walk_at "my_in")⟩
  clear Fb Nb
  rintro _ ⟨hc, tkc, rfl, Fc, Nc⟩
  refine cut (fun s => ∃ Do, At s₁ ga La (fun y => if y = Str.ofString "out" then some (.ref Do) else if y = Str.ofString "newline" then some (.bool false) else if y = Str.ofString "bin_data" then some (.bytes (byteArr (ns.map fun x => x.fmod 256)) t') else if y = Str.ofString "data" then some (.bytes (byteArr (ns.map fun x => x.fmod 256)) t') else if y = Str.ofString "newline" then some (.bool false) else (m0) y) [(Do, listOf #[] 0), (Dn, listOf wm.toArray nm), (Dw, listOf wv.toArray nv), (Dr, listOf wr.toArray nr), (D, listOf ws.toArray n1), (s₁.heap.objs.size + 1, co)] s ∧ @LT.lt Nat _ (Dn) ( Do) ∧ @LT.lt Nat _ (Dw) ( Do) ∧ @LT.lt Nat _ (Dr) ( Do) ∧ @LT.lt Nat _ (D) ( Do) ∧ @LT.lt Nat _ (s₁.heap.objs.size + 1) ( Do)) ?_ ?_
  · try k_fold
    walk_at "my_steps"
    exact ⟨rfl, _, At.intro (by assumption) (by assumption) (fun y => by rfl) (by walk_at "my_in"), by omega, by omega, by omega, by omega, by omega⟩
  clear Fc Nc
  rintro _ ⟨Do, ⟨hd', tkd, rfl, Fd, Nd⟩, lo1, lo2, lo3, lo4, lo5⟩
  refine cut (fun s => ∃ t1, At s₁ ga La (fun y => if y = Str.ofString "leftbits" then some (.int 0 t1) else if y = Str.ofString "out" then some (.ref Do) else if y = Str.ofString "newline" then some (.bool false) else if y = Str.ofString "bin_data" then some (.bytes (byteArr (ns.map fun x => x.fmod 256)) t') else if y = Str.ofString "data" then some (.bytes (byteArr (ns.map fun x => x.fmod 256)) t') else if y = Str.ofString "newline" then some (.bool false) else (m0) y) [(Do, listOf #[] 0), (Dn, listOf wm.toArray nm), (Dw, listOf wv.toArray nv), (Dr, listOf wr.toArray nr), (D, listOf ws.toArray n1), (s₁.heap.objs.size + 1, co)] s) ?_ ?_
  · try k_fold
    walk_at "my_steps"
    exact ⟨rfl, _, At.intro (by assumption) (by assumption) (fun y => by rfl) (by walk_at "my_in")⟩
  clear Fd Nd
  rintro _ ⟨t1, he, tke, rfl, Fe, Ne⟩
  refine cut (fun s => ∃ t2, At s₁ ga La (fun y => if y = Str.ofString "leftchar" then some (.int 0 t2) else if y = Str.ofString "leftbits" then some (.int 0 t1) else if y = Str.ofString "out" then some (.ref Do) else if y = Str.ofString "newline" then some (.bool false) else if y = Str.ofString "bin_data" then some (.bytes (byteArr (ns.map fun x => x.fmod 256)) t') else if y = Str.ofString "data" then some (.bytes (byteArr (ns.map fun x => x.fmod 256)) t') else if y = Str.ofString "newline" then some (.bool false) else (m0) y) [(Do, listOf #[] 0), (Dn, listOf wm.toArray nm), (Dw, listOf wv.toArray nv), (Dr, listOf wr.toArray nr), (D, listOf ws.toArray n1), (s₁.heap.objs.size + 1, co)] s) ?_ ?_
  · try k_fold
    walk_at "my_steps"
    exact ⟨rfl, _, At.intro (by assumption) (by assumption) (fun y => by rfl) (by walk_at "my_in")⟩
  clear Fe Ne
  rintro _ ⟨t2, hf, tkf, rfl, Ff, Nf⟩
  refine cut (fun s => ∃ u : Str → Option Value, ∃ ov no lb ta lc tb q, At s₁ ga La (fun y => if y = Str.ofString "b" then u y else (fun y => if y = Str.ofString "leftchar" then some (.int lc tb) else if y = Str.ofString "leftbits" then some (.int lb ta) else if y = Str.ofString "leftchar" then some (.int 0 t2) else if y = Str.ofString "leftbits" then some (.int 0 t1) else if y = Str.ofString "out" then some (.ref Do) else if y = Str.ofString "newline" then some (.bool false) else if y = Str.ofString "bin_data" then some (.bytes (byteArr (ns.map fun x => x.fmod 256)) t') else if y = Str.ofString "data" then some (.bytes (byteArr (ns.map fun x => x.fmod 256)) t') else if y = Str.ofString "newline" then some (.bool false) else (m0) y) y) [(Do, listOf ov.toArray no), (Dn, listOf wm.toArray nm), (Dw, listOf wv.toArray nv), (Dr, listOf wr.toArray nr), (D, listOf ws.toArray n1), (s₁.heap.objs.size + 1, co)] s ∧ IntsAre ov (q.map b64at) ∧ Inv (ns.map fun x => x.fmod 256) q lb lc) ?_ ?_
  · with_unfolding_all refine' For_invVF Ff ?_ ?_ ?_
    · exact rfl
    · exact rfl
    walk1
    try dsimp only
    with_unfolding_all refine' KStb.kst_bytes (σ := List Value × Nat × Int × Tok × Int × Tok × List Int) (ks := ns.map fun x => x.fmod 256) (fun c => [(Do, listOf c.1.toArray c.2.1), (Dn, listOf wm.toArray nm), (Dw, listOf wv.toArray nv), (Dr, listOf wr.toArray nr), (D, listOf ws.toArray n1), (s₁.heap.objs.size + 1, co)]) (fun c => [(Str.ofString "leftchar", .int c.2.2.2.2.1 c.2.2.2.2.2.1), (Str.ofString "leftbits", .int c.2.2.1 c.2.2.2.1)]) (fun c => IntsAre c.1 (c.2.2.2.2.2.2.map b64at)) [] (fun pre c => Inv pre c.2.2.2.2.2.2 c.2.2.1 c.2.2.2.2.1) ([], 0, 0, t1, 0, t2, []) ?kbs12 ?kls12 ?khs12 ?kFs12 ?kNs12 ?kfs12 ?kks12 ?kps12 ?_ ?_
    case kbs12 => exact KBa.ints_make (r_in ns)
    case kls12 => exact rfl
    case khs12 => exact rfl
    case kFs12 => exact Ff
    case kNs12 => exact Nf
    case kfs12 => exact .nil
    case kps12 => exact inv0
    case kks12 =>
      intro p hp
      rcases List.mem_cons.mp hp with rfl | hp
      · rfl
      · rcases List.mem_cons.mp hp with rfl | hp
        · rfl
        · cases hp
    · rintro ⟨ov, no, lb, ta, lc, tb, q⟩ pre post n t u h tk own hpre hlt hn0' hn1' hoff hfacts hinv F N
      dsimp only at hfacts hinv
      simp only [kstB] at F
      dsimp only at N
      simp only [List.cons_append, List.nil_append] at N
      have hlb := hinv.bits
      have hlo := hinv.lo
      have hhi := hinv.hi
      have hov : ov.length = q.length := by simpa using hfacts.length
      have hq20 : q.length ≤ 20 := by have := hinv.len; have : pre.length < ns.length := by simpa using hlt
                                      omega
      have F9 : Fr ga La h (fun y => if y = Str.ofString "b" then some (.int n t) else if y = Str.ofString "leftchar" then some (.int lc tb) else if y = Str.ofString "leftbits" then some (.int lb ta) else if y = Str.ofString "leftchar" then some (.int 0 t2) else if y = Str.ofString "leftbits" then some (.int 0 t1) else if y = Str.ofString "out" then some (.ref Do) else if y = Str.ofString "newline" then some (.bool false) else if y = Str.ofString "bin_data" then some (.bytes (byteArr (ns.map fun x => x.fmod 256)) t') else if y = Str.ofString "data" then some (.bytes (byteArr (ns.map fun x => x.fmod 256)) t') else if y = Str.ofString "newline" then some (.bool false) else (m0) y) := by
        exact F
      have N9 : News ga La h ([(Do, listOf ov.toArray no), (Dn, listOf wm.toArray nm), (Dw, listOf wv.toArray nv), (Dr, listOf wr.toArray nr), (D, listOf ws.toArray n1), (s₁.heap.objs.size + 1, co)] ++ own) := N
      simp only [List.cons_append, List.nil_append] at N9
      clear F N
      rcases hlb with rfl | rfl | rfl
      · try k_fold
        walk_at "my_steps"
        (rename News _ _ _ _ => nE); (rename Fr _ _ _ _ => fE)
        try simp only [List.push_toArray] at nE
        dsimp only [InvPostN]
        exact kst_end (⟨_, _, (0 + 8 - 6 : Int), _, Builtin.bitAnd (Builtin.bitOr (lc * 2 ^ Int.toNat 8) n) 65535, _, q ++ [(lc * 256 + n) % 65536 / 4 % 64]⟩ : List Value × Nat × Int × Tok × Int × Tok × List Int) fE nE (List.forall_mem_cons.mpr ⟨List.Mem.head _, by k_allIn⟩) (by intro p hp; k_ownIn) rfl (ints_b64 hfacts (six_at lc n 2 hn0' hn1') _) (List.forall_mem_cons.mpr ⟨rfl, List.forall_mem_cons.mpr ⟨rfl, List.forall_mem_nil _⟩⟩) (by
          intro z z1 z2 _
          have a := z2 _ (List.Mem.head _)
          have b := z2 _ (List.Mem.tail _ (List.Mem.head _))
          simp only [a, b, z1, if_false]) (by
          dsimp only
          rw [char_step lc n hn0' hn1', show (0 + 8 - 6 : Int) = 2 by decide]; exact inv_step0 hinv hn0' hn1')
      · try k_fold
        walk_at "my_steps"
        (rename News _ _ _ _ => nE); (rename Fr _ _ _ _ => fE)
        try simp only [List.push_toArray] at nE
        dsimp only [InvPostN]
        exact kst_end (⟨_, _, (2 + 8 - 6 : Int), _, Builtin.bitAnd (Builtin.bitOr (lc * 2 ^ Int.toNat 8) n) 65535, _, q ++ [(lc * 256 + n) % 65536 / 16 % 64]⟩ : List Value × Nat × Int × Tok × Int × Tok × List Int) fE nE (List.forall_mem_cons.mpr ⟨List.Mem.head _, by k_allIn⟩) (by intro p hp; k_ownIn) rfl (ints_b64 hfacts (six_at lc n 4 hn0' hn1') _) (List.forall_mem_cons.mpr ⟨rfl, List.forall_mem_cons.mpr ⟨rfl, List.forall_mem_nil _⟩⟩) (by
          intro z z1 z2 _
          have a := z2 _ (List.Mem.head _)
          have b := z2 _ (List.Mem.tail _ (List.Mem.head _))
          simp only [a, b, z1, if_false]) (by
          dsimp only
          rw [char_step lc n hn0' hn1', show (2 + 8 - 6 : Int) = 4 by decide]; exact inv_step2 hinv hn0' hn1')
      · try k_fold
        walk_at "my_steps"
        (rename News _ _ _ _ => nE); (rename Fr _ _ _ _ => fE)
        try simp only [List.push_toArray] at nE
        dsimp only [InvPostN]
        exact kst_end (⟨_, _, (4 + 8 - 6 - 6 : Int), _, Builtin.bitAnd (Builtin.bitOr (lc * 2 ^ Int.toNat 8) n) 65535, _, (q ++ [(lc * 256 + n) % 65536 / 64 % 64]) ++ [(lc * 256 + n) % 65536 % 64]⟩ : List Value × Nat × Int × Tok × Int × Tok × List Int) fE nE (List.forall_mem_cons.mpr ⟨List.Mem.head _, by k_allIn⟩) (by intro p hp; k_ownIn) rfl (ints_b64 (ints_b64 hfacts (six_at lc n 6 hn0' hn1') _) ((six_at lc n 0 hn0' hn1').trans (by simp)) _) (List.forall_mem_cons.mpr ⟨rfl, List.forall_mem_cons.mpr ⟨rfl, List.forall_mem_nil _⟩⟩) (by
          intro z z1 z2 _
          have a := z2 _ (List.Mem.head _)
          have b := z2 _ (List.Mem.tail _ (List.Mem.head _))
          simp only [a, b, z1, if_false]) (by
          dsimp only
          rw [char_step lc n hn0' hn1', show (4 + 8 - 6 - 6 : Int) = 0 by decide]; exact inv_step4 hinv hn0' hn1')
    · rintro ⟨ov, no, lb, ta, lc, tb, q⟩ u h tk _ hfacts hinv F N
      exact ⟨rfl, u, ov, no, lb, ta, lc, tb, q, ⟨h, tk, rfl, F, N⟩, hfacts, hinv⟩
  clear Ff Nf
  rintro _ ⟨u, ov, no, lb, ta, lc, tb, q, ⟨hg', tkg, rfl, Fg, Ng⟩, hIo, hInv⟩
  have hov : ov.length = q.length := by simpa using hIo.length
  have hq20 : q.length ≤ 20 := by have := hInv.len; have := hInv.bits; simp only [List.length_map] at *; omega
  have hlo := hInv.lo
  have hhi := hInv.hi
  rcases hInv.bits with rfl | rfl | rfl
  · walk_at "my_steps"
    exact ⟨rfl, _, _, _, At.intro (by assumption) (by assumption) (fun y => by rfl) (by walk_at "my_in"), b64ok0 hInv⟩
  · walk_at "my_steps"
    (rename News _ _ _ _ => nE); (rename Fr _ _ _ _ => fE)
    simp only [List.push_toArray] at nE
    refine my_bytes fE nE (List.Mem.head _) (ints_tail2 hIo lc _ _ _) (in_app (b64_map_in _) (show ∀ n ∈ ([61, 61] : List Int), 0 ≤ n ∧ n < 256 by decide)) (by simp only [List.length_append, List.length_map, List.length_cons, List.length_nil]; omega) (by with_unfolding_all rfl) ?_
    clear fE nE
    intro h' t' k' F' N'
    walk_at "my_steps"
    exact ⟨rfl, _, _, _, At.intro (by assumption) (by assumption) (fun y => by rfl) (by walk_at "my_in"), b64ok2 hInv⟩
  · walk_at "my_steps"
    (rename News _ _ _ _ => nE); (rename Fr _ _ _ _ => fE)
    simp only [List.push_toArray] at nE
    refine my_bytes fE nE (List.Mem.head _) (ints_tail4 hIo lc _ _) (in_app (b64_map_in _) (show ∀ n ∈ ([61] : List Int), 0 ≤ n ∧ n < 256 by decide)) (by simp only [List.length_append, List.length_map, List.length_cons, List.length_nil]; omega) (by with_unfolding_all rfl) ?_
    clear fE nE
    intro h' t' k' F' N'
    walk_at "my_steps"
    exact ⟨rfl, _, _, _, At.intro (by assumption) (by assumption) (fun y => by rfl) (by walk_at "my_in"), b64ok4 hInv⟩
  clear F8 N8
  rintro _ ⟨b, tb, q, ⟨h9, tk9, rfl, F9, N9⟩, hB⟩
  refine cut (fun s => ∃ cp ta, At s₁ s₁.heap s₁.heap.objs.size (fun y => if y = Str.ofString "writing" then some (.bytes b tb) else if y = Str.ofString "names" then some (.ref Dn) else if y = Str.ofString "worths" then some (.ref Dw) else if y = Str.ofString "row" then some (.ref Dr) else if y = Str.ofString "size" then some (.int ns.length tz) else if y = Str.ofString "numbers" then some (.ref D) else if y = Str.ofString "script" then some (.ref lst) else none) [(Dn, listOf wm.toArray nm), (Dw, listOf wv.toArray nv), (Dr, listOf wr.toArray nr), (D, listOf ws.toArray n1), (s₁.heap.objs.size + 1, cp)] s ∧ Obj.data cp = .cell (some (.bytes b64u.toArray ta))) ?_ ?_
  · try k_fold
    walk_at "my_steps"
    exact ⟨rfl, _, _, At.intro (by assumption) (by assumption) (fun y => by rfl) (by walk_at "my_in"), by assumption⟩
  clear F9 N9 hco'
  rintro _ ⟨cp, ta, ⟨h10, tk10, rfl, F10, N10⟩, hcp⟩
  refine cut (fun s => ∃ Dx wx nx, At s₁ s₁.heap s₁.heap.objs.size (fun y => if y = Str.ofString "sixes" then some (.ref Dx) else if y = Str.ofString "writing" then some (.bytes b tb) else if y = Str.ofString "names" then some (.ref Dn) else if y = Str.ofString "worths" then some (.ref Dw) else if y = Str.ofString "row" then some (.ref Dr) else if y = Str.ofString "size" then some (.int ns.length tz) else if y = Str.ofString "numbers" then some (.ref D) else if y = Str.ofString "script" then some (.ref lst) else none) [(Dx, listOf wx.toArray nx), (Dn, listOf wm.toArray nm), (Dw, listOf wv.toArray nv), (Dr, listOf wr.toArray nr), (D, listOf ws.toArray n1), (s₁.heap.objs.size + 1, cp)] s ∧ IntsAre wx q ∧ @Ne Nat (Dn) ( Dx) ∧ @Ne Nat (Dw) ( Dx) ∧ @Ne Nat (Dr) ( Dx) ∧ @Ne Nat (D) ( Dx) ∧ @Ne Nat (s₁.heap.objs.size + 1) ( Dx)) ?_ ?_
  · have hbl := b64_len hB
    have hql := hB.len
    simp only [List.length_map] at hbl hql
    try k_fold
    k_dflt (refine comp_bytes F10 N10 (b := b) (tb := tb) (by rfl) (by with_unfolding_all rfl) (by with_unfolding_all rfl) (by decide) (by rfl) (by decide) (by rfl) (by rfl) (by rfl) (by with_unfolding_all rfl) ?zss15 ?its15 ?rss15)
    case zss15 => rw [sizeLine_eq]; omega
    case its15 =>
      walk_at "my_steps"
    case rss15 =>
      intro g'
      refine kci_rest (ks := KBw.bInts b) sixStep (KBw.ints_length b) (fun i v hi hv => ?_) (fun k t I oI C oC Dl m₂ ys l h tk E' hk hy hC hx F N off ne mk => ?_) ?_ six_grows
      · obtain ⟨c, u, hc, rfl⟩ := hv
        exact ⟨_, u, KBw.ints_get hc, rfl⟩
      · rcases six_mem hB hk with rfl | ⟨x, hx0, hx1, rfl⟩
        · walk_at "my_stepsC"
          exact LCg.CompEnd.intro F N _ (fun p hp => hp) off trivial ⟨rfl, rfl⟩
        · walk_at "my_stepsC"
          · exact LCg.CompEnd.intro F N _ (fun p hp => hp) off trivial ⟨rfl, x, _, rfl, by unfold sixStep; rw [if_neg (b64find_at hx0 hx1).2, (b64find_at hx0 hx1).1]⟩
          · exact absurd (by assumption) (b64find_at hx0 hx1).2
      · intro ys hy _ Dx h tk F' N' off
        rw [six_all hB] at hy
        simp only [LCg.Off1] at off
        exact ⟨rfl, Dx, ys, _, At.intro F' N' (fun y => by rfl) (by walk_at "my_in"), hy, off.1, off.2.1, off.2.2.1, off.2.2.2.1, off.2.2.2.2.1⟩
  clear F10 N10
  rintro _ ⟨Dx, wx, nx, ⟨h11, tk11, rfl, F11, N11⟩, hIx, lx1, lx2, lx3, lx4, lx5⟩
  have hql := hB.len
  have hqx : wx.length = q.length := by simpa using hIx.length
  simp only [List.length_map] at hql
  refine cut (fun s => At s₁ s₁.heap s₁.heap.objs.size (fun y => if y = Str.ofString "sixes" then some (.ref Dx) else if y = Str.ofString "writing" then some (.bytes b tb) else if y = Str.ofString "names" then some (.ref Dn) else if y = Str.ofString "worths" then some (.ref Dw) else if y = Str.ofString "row" then some (.ref Dr) else if y = Str.ofString "size" then some (.int ns.length tz) else if y = Str.ofString "numbers" then some (.ref D) else if y = Str.ofString "script" then some (.ref lst) else none) [(Dx, listOf wx.toArray nx), (Dn, listOf wm.toArray nm), (Dw, listOf wv.toArray nv), (Dr, listOf wr.toArray nr), (D, listOf ws.toArray n1), (s₁.heap.objs.size + 1, cp)] s) ?_ ?_
  · have hbl := b64_len hB
    simp only [List.length_map] at hbl
    obtain ⟨ks, hks⟩ : ∃ ks, KBw.bInts b = ks := ⟨_, rfl⟩
    have hkl : ks.length = b.size := by rw [← hks, KBw.ints_length]
    have hf0 : 0 ≤ Int.fmod (-(ns.length : Int)) 3 := fmod_lo _ (by decide)
    have hf1 : Int.fmod (-(ns.length : Int)) 3 < 3 := fmod_hi _ (by decide)
    have hfd : (q.length : Int) = Int.fdiv (4 * (ns.length : Int) + 2) 3 := by rw [Int.fdiv_eq_ediv_of_nonneg _ (by decide)]; omega
    try k_fold
    walk_at "my_steps"
    · exact absurd hfd (by assumption)
    · exact (cut_no hB (n := ns.length) (by simp) hks (by assumption) (by assumption)).elim
    · exact (not_minus1 hB (by assumption)).elim
    · exact ⟨rfl, At.intro (by assumption) (by assumption) (fun y => by rfl) (by walk_at "my_in")⟩
  clear F11 N11
  rintro _ ⟨h12, tk12, rfl, F12, N12⟩
  refine cut (fun s => ∃ tm, At s₁ s₁.heap s₁.heap.objs.size (fun y => if y = Str.ofString "many" then some (.int ((8 * (ns.length : Int) + 4) / 5) tm) else if y = Str.ofString "sixes" then some (.ref Dx) else if y = Str.ofString "writing" then some (.bytes b tb) else if y = Str.ofString "names" then some (.ref Dn) else if y = Str.ofString "worths" then some (.ref Dw) else if y = Str.ofString "row" then some (.ref Dr) else if y = Str.ofString "size" then some (.int ns.length tz) else if y = Str.ofString "numbers" then some (.ref D) else if y = Str.ofString "script" then some (.ref lst) else none) [(Dx, listOf wx.toArray nx), (Dn, listOf wm.toArray nm), (Dw, listOf wv.toArray nv), (Dr, listOf wr.toArray nr), (D, listOf ws.toArray n1), (s₁.heap.objs.size + 1, cp)] s) ?_ ?_
  · try k_fold
    walk_at "my_steps"
    have e9 : Int.fdiv (8 * (ns.length : Int) + 4) 5 = (8 * (ns.length : Int) + 4) / 5 := Int.fdiv_eq_ediv_of_nonneg _ (by decide)
    exact ⟨rfl, _, At.intro (by assumption) (by assumption) (fun y => by rw [← e9]) (by walk_at "my_in")⟩
  clear F12 N12
  rintro _ ⟨tm, h13, tk13, rfl, F13, N13⟩
  obtain ⟨many, hmany⟩ : ∃ many : Nat, (8 * (ns.length : Int) + 4) / 5 = (many : Int) := ⟨(8 * ns.length + 4) / 5, by omega⟩
  obtain ⟨lack, hlack⟩ : ∃ lack : Nat, 5 * (many : Int) - 8 * (ns.length : Int) = (lack : Int) := ⟨5 * many - 8 * ns.length, by omega⟩
  rw [hmany] at F13
  refine cut (fun s => ∃ tl, At s₁ s₁.heap s₁.heap.objs.size (fun y => if y = Str.ofString "lack" then some (.int lack tl) else if y = Str.ofString "many" then some (.int many tm) else if y = Str.ofString "sixes" then some (.ref Dx) else if y = Str.ofString "writing" then some (.bytes b tb) else if y = Str.ofString "names" then some (.ref Dn) else if y = Str.ofString "worths" then some (.ref Dw) else if y = Str.ofString "row" then some (.ref Dr) else if y = Str.ofString "size" then some (.int ns.length tz) else if y = Str.ofString "numbers" then some (.ref D) else if y = Str.ofString "script" then some (.ref lst) else none) [(Dx, listOf wx.toArray nx), (Dn, listOf wm.toArray nm), (Dw, listOf wv.toArray nv), (Dr, listOf wr.toArray nr), (D, listOf ws.toArray n1), (s₁.heap.objs.size + 1, cp)] s) ?_ ?_
  · try k_fold
    walk_at "my_steps"
    exact ⟨rfl, _, At.intro (by assumption) (by assumption) (fun y => by rw [← hlack]) (by walk_at "my_in")⟩
  clear F13 N13
  rintro _ ⟨tl, h14, tk14, rfl, F14, N14⟩
  refine cut (fun s => ∃ tn, At s₁ s₁.heap s₁.heap.objs.size (fun y => if y = Str.ofString "number" then some (.int (num 64 q * 2 ^ lack) tn) else if y = Str.ofString "lack" then some (.int lack tl) else if y = Str.ofString "many" then some (.int many tm) else if y = Str.ofString "sixes" then some (.ref Dx) else if y = Str.ofString "writing" then some (.bytes b tb) else if y = Str.ofString "names" then some (.ref Dn) else if y = Str.ofString "worths" then some (.ref Dw) else if y = Str.ofString "row" then some (.ref Dr) else if y = Str.ofString "size" then some (.int ns.length tz) else if y = Str.ofString "numbers" then some (.ref D) else if y = Str.ofString "script" then some (.ref lst) else none) [(Dx, listOf wx.toArray nx), (Dn, listOf wm.toArray nm), (Dw, listOf wv.toArray nv), (Dr, listOf wr.toArray nr), (D, listOf ws.toArray n1), (s₁.heap.objs.size + 1, cp)] s) ?_ ?_
  · try k_fold
    walk_at "my_stepsFor"
    dsimp only
    rename_i ga La ha0 FGa Ba Xa Ta lf1  ha Fa Na
    obtain ⟨m0, t0, t6, Fd⟩ : ∃ (m0 : Str → Option Value) (t0 t6 : Tok), Fr ga La ha (fun y => if y = Str.ofString "number" then some (.int 0 t0) else if y = Str.ofString "values" then some (.ref Dx) else if y = Str.ofString "base" then some (.int 64 t6) else (m0) y) := ⟨_, _, _, fr_over (Str.ofString "number") (fr_over (Str.ofString "values") (fr_over (Str.ofString "base") Fa rfl) rfl) rfl⟩
    clear Fa
    refine cut (fun s => ∃ (u : Str → Option Value) (ta : Tok), At s₁ ga La (fun y => if y = Str.ofString "value" then u y else (fun y => if y = Str.ofString "number" then some (.int (num 64 (q)) ta) else if y = Str.ofString "number" then some (.int 0 t0) else if y = Str.ofString "values" then some (.ref Dx) else if y = Str.ofString "base" then some (.int 64 t6) else (m0) y) y) [(Dx, listOf wx.toArray nx), (Dn, listOf wm.toArray nm), (Dw, listOf wv.toArray nv), (Dr, listOf wr.toArray nr), (D, listOf ws.toArray n1), (s₁.heap.objs.size + 1, cp)] s) ?_ ?_
    · with_unfolding_all refine' For_invVF Fd ?_ ?_ ?_
      · exact rfl
      · exact rfl
      walk1
      try dsimp only
      with_unfolding_all refine' kst_listL (σ := Int × Tok) (ns := q) (vs := wx) (nn := nx) (fun _ => [(Dx, listOf wx.toArray nx), (Dn, listOf wm.toArray nm), (Dw, listOf wv.toArray nv), (Dr, listOf wr.toArray nr), (D, listOf ws.toArray n1), (s₁.heap.objs.size + 1, cp)]) (fun c => [(Str.ofString "number", .int c.1 c.2)]) (fun _ => True) [] (fun pre c => c.1 = num 64 pre) (0, t0) ?khs18n1 ?kls18n1 ?kis18n1 ?kFs18n1 ?kNs18n1 ?kfs18n1 ?kks18n1 ?kps18n1 ?_ ?_
      case khs18n1 => exact rfl
      case kls18n1 => intro _; k_mem
      case kis18n1 => exact hIx
      case kFs18n1 => exact Fd
      case kNs18n1 => exact Na
      case kfs18n1 => exact trivial
      case kps18n1 => exact rfl
      case kks18n1 =>
        intro p hp
        rcases List.mem_cons.mp hp with rfl | hp
        · rfl
        · cases hp
      · rintro ⟨c, tc⟩ pre post n t u h tk own hpre hmem hoff _ hinv F N
        dsimp only at hinv
        simp only [kstB] at F
        try dsimp only at N
        have F9 : Fr ga La h (fun y => if y = Str.ofString "value" then some (.int n t) else if y = Str.ofString "number" then some (.int c tc) else if y = Str.ofString "number" then some (.int 0 t0) else if y = Str.ofString "values" then some (.ref Dx) else if y = Str.ofString "base" then some (.int 64 t6) else (m0) y) := F
        have N9 : News ga La h ([(Dx, listOf wx.toArray nx), (Dn, listOf wm.toArray nm), (Dw, listOf wv.toArray nv), (Dr, listOf wr.toArray nr), (D, listOf ws.toArray n1), (s₁.heap.objs.size + 1, cp)] ++ own) := N
        simp only [List.cons_append, List.nil_append] at N9
        clear F N
        try k_fold
        walk_at "my_steps"
        (rename News _ _ _ _ => nE); (rename Fr _ _ _ _ => fE)
        dsimp only [InvPostN]
        exact kst_end (⟨c * 64 + n, _⟩ : Int × Tok) fE nE (by k_allIn) (by intro p hp; k_ownIn) rfl trivial (List.forall_mem_cons.mpr ⟨rfl, List.forall_mem_nil _⟩) (by
          intro z z1 z2 _
          have a := z2 _ (List.Mem.head _)
          simp only [a, z1, if_false]) (by
          dsimp only
          rw [num_snoc, hinv])
      · rintro ⟨c, tc⟩ u h tk _ hinv F N
        dsimp only at hinv
        subst hinv
        exact ⟨rfl, u, tc, ⟨h, tk, rfl, F, N⟩⟩
    clear Fd Na
    rintro _ ⟨u, ta, hg', tkg, rfl, Fg, Ng⟩
    have hl0 : 0 ≤ (lack : Int) := by omega
    have hl4 : (lack : Int) ≤ 4 := by omega
    have hmul : IntMulOk (num 64 q) (2 ^ Int.toNat (lack : Int)) := mulOk_num hB.lo (by omega) (by omega)
    try k_fold
    walk_at "my_steps"
    exact ⟨rfl, _, At.intro (by assumption) (by assumption) (fun y => by rfl) (by walk_at "my_in")⟩
  clear F14 N14
  rintro _ ⟨tn, h15, tk15, rfl, F15, N15⟩
  obtain ⟨sp, hsp⟩ : ∃ sp : Nat, 6 * q.length - 8 * ns.length = sp := ⟨_, rfl⟩
  have hspi : 6 * (q.length : Int) - 8 * (ns.length : Int) = (sp : Int) := by omega
  have hsp4 : sp ≤ 4 := by omega
  have hne : (2 : Int) ^ sp ≠ 0 := by have := kbt_pos sp; omega
  have hlen : (ns.map fun x => x.fmod 256).length = ns.length := by simp
  refine cut (fun s => ∃ tp, At s₁ s₁.heap s₁.heap.objs.size (fun y => if y = Str.ofString "spare" then some (.int (2 ^ sp) tp) else if y = Str.ofString "number" then some (.int (num 64 q * 2 ^ lack) tn) else if y = Str.ofString "lack" then some (.int lack tl) else if y = Str.ofString "many" then some (.int many tm) else if y = Str.ofString "sixes" then some (.ref Dx) else if y = Str.ofString "writing" then some (.bytes b tb) else if y = Str.ofString "names" then some (.ref Dn) else if y = Str.ofString "worths" then some (.ref Dw) else if y = Str.ofString "row" then some (.ref Dr) else if y = Str.ofString "size" then some (.int ns.length tz) else if y = Str.ofString "numbers" then some (.ref D) else if y = Str.ofString "script" then some (.ref lst) else none) [(Dx, listOf wx.toArray nx), (Dn, listOf wm.toArray nm), (Dw, listOf wv.toArray nv), (Dr, listOf wr.toArray nr), (D, listOf ws.toArray n1), (s₁.heap.objs.size + 1, cp)] s) ?_ ?_
  · have hg0 : 0 ≤ 6 * (q.length : Int) - 8 * (ns.length : Int) := by omega
    have hg4 : 6 * (q.length : Int) - 8 * (ns.length : Int) ≤ 4 := by omega
    have hto : (6 * (q.length : Int) - 8 * (ns.length : Int)).toNat = sp := by omega
    try k_fold
    walk_at "my_steps"
    exact ⟨rfl, _, At.intro (by assumption) (by assumption) (fun y => by rw [hto]) (by walk_at "my_in")⟩
  clear F15 N15
  rintro _ ⟨tp, h16, tk16, rfl, F16, N16⟩
  refine cut (fun s => At s₁ s₁.heap s₁.heap.objs.size (fun y => if y = Str.ofString "spare" then some (.int (2 ^ sp) tp) else if y = Str.ofString "number" then some (.int (num 64 q * 2 ^ lack) tn) else if y = Str.ofString "lack" then some (.int lack tl) else if y = Str.ofString "many" then some (.int many tm) else if y = Str.ofString "sixes" then some (.ref Dx) else if y = Str.ofString "writing" then some (.bytes b tb) else if y = Str.ofString "names" then some (.ref Dn) else if y = Str.ofString "worths" then some (.ref Dw) else if y = Str.ofString "row" then some (.ref Dr) else if y = Str.ofString "size" then some (.int ns.length tz) else if y = Str.ofString "numbers" then some (.ref D) else if y = Str.ofString "script" then some (.ref lst) else none) [(Dx, listOf wx.toArray nx), (Dn, listOf wm.toArray nm), (Dw, listOf wv.toArray nv), (Dr, listOf wr.toArray nr), (D, listOf ws.toArray n1), (s₁.heap.objs.size + 1, cp)] s) ?_ ?_
  · have hmo : (num 64 q * 2 ^ lack).fmod (2 ^ sp) = 0 := spare_mod hB (by rw [hlen]; exact hsp)
    try k_fold
    walk_at "my_steps"
    · exact absurd hmo (by assumption)
    · exact ⟨rfl, At.intro (by assumption) (by assumption) (fun y => by rfl) (by walk_at "my_in")⟩
  clear F16 N16
  rintro _ ⟨h17, tk17, rfl, F17, N17⟩
  refine cut (fun s => ∃ tq, At s₁ s₁.heap s₁.heap.objs.size (fun y => if y = Str.ofString "number" then some (.int (num 256 (ns.map fun x => x.fmod 256) * 2 ^ lack) tq) else if y = Str.ofString "spare" then some (.int (2 ^ sp) tp) else if y = Str.ofString "number" then some (.int (num 64 q * 2 ^ lack) tn) else if y = Str.ofString "lack" then some (.int lack tl) else if y = Str.ofString "many" then some (.int many tm) else if y = Str.ofString "sixes" then some (.ref Dx) else if y = Str.ofString "writing" then some (.bytes b tb) else if y = Str.ofString "names" then some (.ref Dn) else if y = Str.ofString "worths" then some (.ref Dw) else if y = Str.ofString "row" then some (.ref Dr) else if y = Str.ofString "size" then some (.int ns.length tz) else if y = Str.ofString "numbers" then some (.ref D) else if y = Str.ofString "script" then some (.ref lst) else none) [(Dx, listOf wx.toArray nx), (Dn, listOf wm.toArray nm), (Dw, listOf wv.toArray nv), (Dr, listOf wr.toArray nr), (D, listOf ws.toArray n1), (s₁.heap.objs.size + 1, cp)] s) ?_ ?_
  · have hdi : (num 64 q * 2 ^ lack).fdiv (2 ^ sp) = num 256 (ns.map fun x => x.fmod 256) * 2 ^ lack := spare_div hB (by rw [hlen]; exact hsp)
    try k_fold
    walk_at "my_steps"
    · exact absurd (by assumption) hne
    · exact ⟨rfl, _, At.intro (by assumption) (by assumption) (fun y => by rw [← hdi]) (by walk_at "my_in")⟩
  clear F17 N17
  rintro _ ⟨tq, h18, tk18, rfl, F18, N18⟩
  obtain ⟨Nn, hNn⟩ : ∃ Nn : Int, num 256 (ns.map fun x => x.fmod 256) * 2 ^ lack = Nn := ⟨_, rfl⟩
  rw [hNn] at F18
  have hN0 : 0 ≤ Nn ∧ Nn < 32 ^ many := by
    rw [← hNn]; exact num_bound (r_in ns) (by rw [hlen]; omega)
  have F18' : Fr s₁.heap s₁.heap.objs.size h18 (fun y => if y = Str.ofString "number" then some (.int Nn tq) else if y = Str.ofString "spare" then some (.int (2 ^ sp) tp) else if y = Str.ofString "lack" then some (.int lack tl) else if y = Str.ofString "many" then some (.int many tm) else if y = Str.ofString "sixes" then some (.ref Dx) else if y = Str.ofString "writing" then some (.bytes b tb) else if y = Str.ofString "names" then some (.ref Dn) else if y = Str.ofString "worths" then some (.ref Dw) else if y = Str.ofString "row" then some (.ref Dr) else if y = Str.ofString "size" then some (.int ns.length tz) else if y = Str.ofString "numbers" then some (.ref D) else if y = Str.ofString "script" then some (.ref lst) else none) := by
    refine fr_eq F18 (fun y => ?_)
    by_cases hy : y = Str.ofString "number"
    · rw [if_pos hy, if_pos hy]
    · simp only [if_neg hy]
  clear F18
  refine cut (fun s => ∃ Dq, At s₁ s₁.heap s₁.heap.objs.size (fun y => if y = Str.ofString "words" then some (.ref Dq) else if y = Str.ofString "number" then some (.int Nn tq) else if y = Str.ofString "spare" then some (.int (2 ^ sp) tp) else if y = Str.ofString "lack" then some (.int lack tl) else if y = Str.ofString "many" then some (.int many tm) else if y = Str.ofString "sixes" then some (.ref Dx) else if y = Str.ofString "writing" then some (.bytes b tb) else if y = Str.ofString "names" then some (.ref Dn) else if y = Str.ofString "worths" then some (.ref Dw) else if y = Str.ofString "row" then some (.ref Dr) else if y = Str.ofString "size" then some (.int ns.length tz) else if y = Str.ofString "numbers" then some (.ref D) else if y = Str.ofString "script" then some (.ref lst) else none) [(Dq, listOf #[] 0), (Dx, listOf wx.toArray nx), (Dn, listOf wm.toArray nm), (Dw, listOf wv.toArray nv), (Dr, listOf wr.toArray nr), (D, listOf ws.toArray n1), (s₁.heap.objs.size + 1, cp)] s ∧ @LT.lt Nat _ (Dx) ( Dq) ∧ @LT.lt Nat _ (Dn) ( Dq) ∧ @LT.lt Nat _ (Dw) ( Dq) ∧ @LT.lt Nat _ (Dr) ( Dq) ∧ @LT.lt Nat _ (D) ( Dq) ∧ @LT.lt Nat _ (s₁.heap.objs.size + 1) ( Dq)) ?_ ?_
  · try k_fold
    walk_at "my_steps"
    exact ⟨rfl, _, At.intro (by assumption) (by assumption) (fun y => by rfl) (by walk_at "my_in"), by omega, by omega, by omega, by omega, by omega, by omega⟩
  clear F18' N18
  rintro _ ⟨Dq, ⟨h19, tk19, rfl, F19, N19⟩, lq1, lq2, lq3, lq4, lq5, lq6⟩
  refine cut (fun s => ∃ (u : Str → Option Value) (wq : List Value) (nq : Nat) (ss : List Str), At s₁ s₁.heap s₁.heap.objs.size (fun y => if y = Str.ofString "k" then u y else (fun z => if [Str.ofString "x", Str.ofString "five", Str.ofString "code", Str.ofString "sign"].contains z then u z else (fun y => if y = Str.ofString "words" then some (.ref Dq) else if y = Str.ofString "number" then some (.int Nn tq) else if y = Str.ofString "spare" then some (.int (2 ^ sp) tp) else if y = Str.ofString "lack" then some (.int lack tl) else if y = Str.ofString "many" then some (.int many tm) else if y = Str.ofString "sixes" then some (.ref Dx) else if y = Str.ofString "writing" then some (.bytes b tb) else if y = Str.ofString "names" then some (.ref Dn) else if y = Str.ofString "worths" then some (.ref Dw) else if y = Str.ofString "row" then some (.ref Dr) else if y = Str.ofString "size" then some (.int ns.length tz) else if y = Str.ofString "numbers" then some (.ref D) else if y = Str.ofString "script" then some (.ref lst) else none) z) y) [(Dq, listOf wq.toArray nq), (Dx, listOf wx.toArray nx), (Dn, listOf wm.toArray nm), (Dw, listOf wv.toArray nv), (Dr, listOf wr.toArray nr), (D, listOf ws.toArray n1), (s₁.heap.objs.size + 1, cp)] s ∧ StrsAre wq ss ∧ WordsOk Nn many ss ∧ ss.length = many) ?_ ?_
  try k_fold
  with_unfolding_all refine' For_invVF F19 ?_ ?_ ?_
  · exact rfl
  · exact rfl
  focus (walk_at "my_stepsR")
  rename IsRange _ _ _ _ _ _ _ _ => hRg
  rename News _ _ _ _ => N19'
  rename Fr _ _ _ _ => F19'
  with_unfolding_all refine' kst_range (σ := List Value × Nat × List Str) (n := many) (fun c => [(Dq, listOf c.1.toArray c.2.1), (Dx, listOf wx.toArray nx), (Dn, listOf wm.toArray nm), (Dw, listOf wv.toArray nv), (Dr, listOf wr.toArray nr), (D, listOf ws.toArray n1), (s₁.heap.objs.size + 1, cp)]) (fun _ => []) (fun c => StrsAre c.1 c.2.2) [Str.ofString "x", Str.ofString "five", Str.ofString "code", Str.ofString "sign"] (fun pre c => WordsOk Nn many c.2.2 ∧ c.2.2.length = pre.length) ([], 0, []) ?khs20 hRg ?kss20 ?kns20 F19' N19' ?kfs20 ?kks20 ?kps20 ?tus20 ?dns20
  case khs20 => exact rfl
  case kss20 => exact small_one (by omega) (by omega) (by omega) (by omega)
  case kns20 => exact rangeSize_nat _ _
  case kfs20 => exact .nil
  case kps20 => exact ⟨words0 _ _, rfl⟩
  case kks20 => intro p hp; cases hp
  case dns20 =>
    rintro ⟨wq, nq, ss⟩ u h tk hfacts hinv F N
    dsimp only at hfacts hinv
    exact ⟨rfl, u, wq, nq, ss, ⟨h, tk, rfl, F, N⟩, hfacts, hinv.1, by rw [hinv.2]; exact rangeKs_length _ _⟩
  clear F19' N19' hRg
  rintro ⟨wq, nq, ss⟩ pre k t u h tk own hk hlt hoff hfacts hinv F N
  dsimp only at hfacts hinv
  obtain ⟨hWs, hsl⟩ := hinv
  have hwl : wq.length = ss.length := by simpa using hfacts.length
  have hk0 : k = (ss.length : Int) := by omega
  subst hk0
  rw [← hsl] at hlt
  clear hk
  have hm12 : many ≤ 12 := by omega
  obtain ⟨m1, hm1, F9⟩ : ∃ m1 : Str → Option Value, (∀ z, z ≠ Str.ofString "k" → [Str.ofString "x", Str.ofString "five", Str.ofString "code", Str.ofString "sign"].contains z = false → m1 z = (fun y => if y = Str.ofString "words" then some (.ref Dq) else if y = Str.ofString "number" then some (.int Nn tq) else if y = Str.ofString "spare" then some (.int (2 ^ sp) tp) else if y = Str.ofString "lack" then some (.int lack tl) else if y = Str.ofString "many" then some (.int many tm) else if y = Str.ofString "sixes" then some (.ref Dx) else if y = Str.ofString "writing" then some (.bytes b tb) else if y = Str.ofString "names" then some (.ref Dn) else if y = Str.ofString "worths" then some (.ref Dw) else if y = Str.ofString "row" then some (.ref Dr) else if y = Str.ofString "size" then some (.int ns.length tz) else if y = Str.ofString "numbers" then some (.ref D) else if y = Str.ofString "script" then some (.ref lst) else none) z) ∧ Fr s₁.heap s₁.heap.objs.size h (fun y => if y = Str.ofString "k" then some (.int (ss.length : Int) t) else if y = Str.ofString "words" then some (.ref Dq) else if y = Str.ofString "number" then some (.int Nn tq) else if y = Str.ofString "many" then some (.int many tm) else if y = Str.ofString "names" then some (.ref Dn) else if y = Str.ofString "size" then some (.int ns.length tz) else if y = Str.ofString "numbers" then some (.ref D) else (m1) y) := by
    refine ⟨_, ?_, fr_over (Str.ofString "k") (fr_over (Str.ofString "words") (fr_over (Str.ofString "number") (fr_over (Str.ofString "many") (fr_over (Str.ofString "names") (fr_over (Str.ofString "size") (fr_over (Str.ofString "numbers") F rfl) rfl) rfl) rfl) rfl) rfl) rfl⟩
    intro z hz hs
    simp only [hz, if_false, kstB, hs, Bool.false_eq_true]
  have N9 : News s₁.heap s₁.heap.objs.size h ([(Dq, listOf wq.toArray nq), (Dx, listOf wx.toArray nx), (Dn, listOf wm.toArray nm), (Dw, listOf wv.toArray nv), (Dr, listOf wr.toArray nr), (D, listOf ws.toArray n1), (s₁.heap.objs.size + 1, cp)] ++ own) := N
  simp only [List.cons_append, List.nil_append] at N9
  clear F N
  refine cut (fun s => ∃ xk tx, At s₁ s₁.heap s₁.heap.objs.size (fun y => if y = Str.ofString "x" then some (.int xk tx) else if y = Str.ofString "k" then some (.int (ss.length : Int) t) else if y = Str.ofString "words" then some (.ref Dq) else if y = Str.ofString "number" then some (.int Nn tq) else if y = Str.ofString "many" then some (.int many tm) else if y = Str.ofString "names" then some (.ref Dn) else if y = Str.ofString "size" then some (.int ns.length tz) else if y = Str.ofString "numbers" then some (.ref D) else (m1) y) ((Dq, listOf wq.toArray nq) :: (Dx, listOf wx.toArray nx) :: (Dn, listOf wm.toArray nm) :: (Dw, listOf wv.toArray nv) :: (Dr, listOf wr.toArray nr) :: (D, listOf ws.toArray n1) :: (s₁.heap.objs.size + 1, cp) :: own) s) ?_ ?_
  · have hf0 : 0 ≤ Int.fmod (ss.length : Int) (ns.length : Int) := fmod_lo _ (by omega)
    have hf1 : Int.fmod (ss.length : Int) (ns.length : Int) < ns.length := fmod_hi _ (by omega)
    try k_fold
    walk_at "my_steps"
    exact ⟨rfl, _, _, At.intro (by assumption) (by assumption) (fun y => by rfl) (fun p hp => hp)⟩
  clear F9 N9
  rintro _ ⟨xk, tx, hA, tkA, rfl, FA, NA⟩
  refine cut (fun s => ∃ t5, At s₁ s₁.heap s₁.heap.objs.size (fun y => if y = Str.ofString "five" then some (.int (fiveAt Nn many ss.length) t5) else if y = Str.ofString "x" then some (.int xk tx) else if y = Str.ofString "k" then some (.int (ss.length : Int) t) else if y = Str.ofString "words" then some (.ref Dq) else if y = Str.ofString "number" then some (.int Nn tq) else if y = Str.ofString "many" then some (.int many tm) else if y = Str.ofString "names" then some (.ref Dn) else if y = Str.ofString "size" then some (.int ns.length tz) else if y = Str.ofString "numbers" then some (.ref D) else (m1) y) ((Dq, listOf wq.toArray nq) :: (Dx, listOf wx.toArray nx) :: (Dn, listOf wm.toArray nm) :: (Dw, listOf wv.toArray nv) :: (Dr, listOf wr.toArray nr) :: (D, listOf ws.toArray n1) :: (s₁.heap.objs.size + 1, cp) :: own) s) ?_ ?_
  · have he0 : 0 ≤ (many : Int) - 1 - (ss.length : Int) := by omega
    have he1 : (many : Int) - 1 - (ss.length : Int) ≤ 11 := by omega
    have hp32 : (32 : Int) ^ ((many : Int) - 1 - (ss.length : Int)).toNat ≠ 0 := by have := pow32_pos ((many : Int) - 1 - (ss.length : Int)).toNat; omega
    try k_fold
    walk_at "my_steps"
    · exact absurd (by assumption) hp32
    · exact ⟨rfl, _, At.intro (by assumption) (by assumption) (fun y => by rw [← five_eq hlt]) (fun p hp => hp)⟩
  clear FA NA
  rintro _ ⟨t5, hB', tkB, rfl, FB, NB⟩
  have hv := five_range Nn many ss.length
  obtain ⟨v, hvv⟩ : ∃ v : Int, fiveAt Nn many ss.length = v := ⟨_, rfl⟩
  rw [hvv] at FB hv
  obtain ⟨hv0, hv1⟩ := hv
  try k_fold
  focus (walk1; walk_at "my_stepsI")
  have hnl : (names1 ++ names2).length = 32 := rfl
  focus (walk_at "my_steps")
  · exact (ctl_no hv0 hv1 (by assumption)).elim
  · skip
    (rename News _ _ _ _ => nE); (rename Fr _ _ _ _ => fE)
    try simp only [List.push_toArray] at nE
    dsimp only [InvPostN]
    exact kst_end (⟨_, _, ss ++ [_]⟩ : List Value × Nat × List Str) fE nE (List.forall_mem_cons.mpr ⟨List.Mem.head _, by k_allIn⟩) (by intro p hp; k_ownIn) rfl (strs_append (by assumption : StrsAre wq ss) (.cons _ _ .nil)) (by intro p hp; cases hp) (by
      intro z z1 _ z3
      obtain ⟨c1, c2, c3, c4⟩ := stored_ne z3
      have hz := hm1 z z1 z3
      simp only [c1, c2, c3, c4, z1, if_false]
      by_cases e1 : z = Str.ofString "words"
      · subst e1; rfl
      by_cases e2 : z = Str.ofString "number"
      · subst e2; rfl
      by_cases e3 : z = Str.ofString "many"
      · subst e3; rfl
      by_cases e4 : z = Str.ofString "names"
      · subst e4; rfl
      by_cases e5 : z = Str.ofString "size"
      · subst e5; rfl
      by_cases e6 : z = Str.ofString "numbers"
      · subst e6; rfl
      simp only [e1, e2, e3, e4, e5, e6, if_false]
      rw [hz]
      simp only [e1, e2, e3, e4, e5, e6, if_false]) ⟨words_snoc hWs (by rw [hvv]; exact word_ctl hv0 hv1), by rw [List.length_append, List.length_append, hsl]; rfl⟩
  refine cut (fun s => ∃ cd tc, At s₁ s₁.heap s₁.heap.objs.size (fun y => if y = Str.ofString "code" then some (.int cd tc) else if y = Str.ofString "five" then some (.int v t5) else if y = Str.ofString "x" then some (.int xk tx) else if y = Str.ofString "k" then some (.int (ss.length : Int) t) else if y = Str.ofString "words" then some (.ref Dq) else if y = Str.ofString "number" then some (.int Nn tq) else if y = Str.ofString "many" then some (.int many tm) else if y = Str.ofString "names" then some (.ref Dn) else if y = Str.ofString "size" then some (.int ns.length tz) else if y = Str.ofString "numbers" then some (.ref D) else (m1) y) ((Dq, listOf wq.toArray nq) :: (Dx, listOf wx.toArray nx) :: (Dn, listOf wm.toArray nm) :: (Dw, listOf wv.toArray nv) :: (Dr, listOf wr.toArray nr) :: (D, listOf ws.toArray n1) :: (s₁.heap.objs.size + 1, cp) :: own) s ∧ cd % 32 = v) ?_ ?_
  · try k_fold
    walk_at "my_steps"
    exact ⟨rfl, _, _, At.intro (by assumption) (by assumption) (fun y => by rfl) (fun p hp => hp), by omega⟩
  clear FB NB
  rintro _ ⟨cd, tc, ⟨hC', tkC, rfl, FC, NC⟩, hcm⟩
  refine cut (fun s => ∃ (cn : Nat) (ts : Tok), At s₁ s₁.heap s₁.heap.objs.size (fun y => if y = Str.ofString "sign" then some (.str ⟨#[cn]⟩ ts) else if y = Str.ofString "code" then some (.int cd tc) else if y = Str.ofString "five" then some (.int v t5) else if y = Str.ofString "x" then some (.int xk tx) else if y = Str.ofString "k" then some (.int (ss.length : Int) t) else if y = Str.ofString "words" then some (.ref Dq) else if y = Str.ofString "number" then some (.int Nn tq) else if y = Str.ofString "many" then some (.int many tm) else if y = Str.ofString "names" then some (.ref Dn) else if y = Str.ofString "size" then some (.int ns.length tz) else if y = Str.ofString "numbers" then some (.ref D) else (m1) y) ((Dq, listOf wq.toArray nq) :: (Dx, listOf wx.toArray nx) :: (Dn, listOf wm.toArray nm) :: (Dw, listOf wv.toArray nv) :: (Dr, listOf wr.toArray nr) :: (D, listOf ws.toArray n1) :: (s₁.heap.objs.size + 1, cp) :: own) s ∧ (cn : Int) % 32 = v ∧ cn < 55296) ?_ ?_
  · have hf0 : 0 ≤ cd.fmod 55296 := fmod_lo _ (by decide)
    have hf1 : cd.fmod 55296 < 55296 := fmod_hi _ (by decide)
    have hfe : cd.fmod 55296 = cd % 55296 := Int.fmod_eq_emod_of_nonneg _ (by decide)
    try k_fold
    walk_at "my_steps"
    exact ⟨rfl, _, _, At.intro (by assumption) (by assumption) (fun y => by rfl) (fun p hp => hp), by omega, by omega⟩
  clear FC NC
  rintro _ ⟨cn, ts, ⟨hD', tkD, rfl, FD, ND⟩, hcn, hcl⟩
  have hba : Builtin.bitAnd cd 31 = v := by rw [bitAnd_m5]; exact hcm
  have hbb : Builtin.bitAnd (cn : Int) 31 = v := by rw [bitAnd_m5]; exact hcn
  refine cut (fun s => At s₁ s₁.heap s₁.heap.objs.size (fun y => if y = Str.ofString "sign" then some (.str ⟨#[cn]⟩ ts) else if y = Str.ofString "code" then some (.int cd tc) else if y = Str.ofString "five" then some (.int v t5) else if y = Str.ofString "x" then some (.int xk tx) else if y = Str.ofString "k" then some (.int (ss.length : Int) t) else if y = Str.ofString "words" then some (.ref Dq) else if y = Str.ofString "number" then some (.int Nn tq) else if y = Str.ofString "many" then some (.int many tm) else if y = Str.ofString "names" then some (.ref Dn) else if y = Str.ofString "size" then some (.int ns.length tz) else if y = Str.ofString "numbers" then some (.ref D) else (m1) y) ((Dq, listOf wq.toArray nq) :: (Dx, listOf wx.toArray nx) :: (Dn, listOf wm.toArray nm) :: (Dw, listOf wv.toArray nv) :: (Dr, listOf wr.toArray nr) :: (D, listOf ws.toArray n1) :: (s₁.heap.objs.size + 1, cp) :: own) s) ?_ ?_
  · try k_fold
    walk_at "my_steps"
    · exact absurd hba (by assumption)
    · exact (str_no (congrArg Int.toNat hbb) (by assumption)).elim
    · exact ⟨rfl, At.intro (by assumption) (by assumption) (fun y => by rfl) (fun p hp => hp)⟩
  clear FD ND
  rintro _ ⟨hE', tkE, rfl, FE, NE⟩
  obtain ⟨oa0, oa1, oa2⟩ := or_facts cd
  obtain ⟨ob0, ob1, ob2⟩ := or_facts (cn : Int)
  try k_fold
  focus
    walk_at "my_steps"
    all_goals
      clear oa0 oa1 oa2 ob0 ob1 ob2
      (rename News _ _ _ _ => nE); (rename Fr _ _ _ _ => fE)
      try simp only [List.push_toArray] at nE
      dsimp only [InvPostN]
      exact kst_end (⟨_, _, ss ++ [_]⟩ : List Value × Nat × List Str) fE nE (List.forall_mem_cons.mpr ⟨List.Mem.head _, by k_allIn⟩) (by intro p hp; k_ownIn) rfl (strs_append (by assumption : StrsAre wq ss) (.cons _ _ .nil)) (by intro p hp; cases hp) (by
        intro z z1 _ z3
        obtain ⟨c1, c2, c3, c4⟩ := stored_ne z3
        have hz := hm1 z z1 z3
        simp only [c1, c2, c3, c4, z1, if_false]
        by_cases e1 : z = Str.ofString "words"
        · subst e1; rfl
        by_cases e2 : z = Str.ofString "number"
        · subst e2; rfl
        by_cases e3 : z = Str.ofString "many"
        · subst e3; rfl
        by_cases e4 : z = Str.ofString "names"
        · subst e4; rfl
        by_cases e5 : z = Str.ofString "size"
        · subst e5; rfl
        by_cases e6 : z = Str.ofString "numbers"
        · subst e6; rfl
        simp only [e1, e2, e3, e4, e5, e6, if_false]
        rw [hz]
        simp only [e1, e2, e3, e4, e5, e6, if_false]) ⟨words_snoc hWs (by rw [hvv]; exact (by first | exact wordO (x := cd) hcm | exact wordO (x := (cn : Int)) hcn | exact wordOb (x := cd) hcm | exact wordOb (x := (cn : Int)) hcn | exact wordP (x := cd) hcm (by omega) | exact wordP (x := (cn : Int)) hcn (by omega) | exact wordPb (x := cd) hcm (by omega) | exact wordPb (x := (cn : Int)) hcn (by omega) | exact word127 (x := cd) hcm (by omega) | exact word127 (x := (cn : Int)) hcn (by omega) | exact word127b (x := cd) hcm (by omega) | exact word127b (x := (cn : Int)) hcn (by omega))), by rw [List.length_append, List.length_append, hsl]; rfl⟩
  clear F19 N19
  rintro _ ⟨u20, wq, nq, ss, ⟨h20, tk20, rfl, F20, N20⟩, hSq, hWs, hss⟩
  obtain ⟨m2, F21⟩ : ∃ m2 : Str → Option Value, Fr s₁.heap s₁.heap.objs.size h20 (fun y => if y = Str.ofString "words" then some (.ref Dq) else if y = Str.ofString "lack" then some (.int lack tl) else if y = Str.ofString "many" then some (.int many tm) else if y = Str.ofString "names" then some (.ref Dn) else if y = Str.ofString "worths" then some (.ref Dw) else if y = Str.ofString "row" then some (.ref Dr) else (m2) y) := ⟨_, fr_over (Str.ofString "words") (fr_over (Str.ofString "lack") (fr_over (Str.ofString "many") (fr_over (Str.ofString "names") (fr_over (Str.ofString "worths") (fr_over (Str.ofString "row") F20 rfl) rfl) rfl) rfl) rfl) rfl⟩
  clear F20
  refine cut (fun s => ∃ Dv, At s₁ s₁.heap s₁.heap.objs.size (fun y => if y = Str.ofString "values" then some (.ref Dv) else if y = Str.ofString "words" then some (.ref Dq) else if y = Str.ofString "lack" then some (.int lack tl) else if y = Str.ofString "many" then some (.int many tm) else if y = Str.ofString "names" then some (.ref Dn) else if y = Str.ofString "worths" then some (.ref Dw) else if y = Str.ofString "row" then some (.ref Dr) else (m2) y) [(Dv, listOf #[] 0), (Dq, listOf wq.toArray nq), (Dn, listOf wm.toArray nm), (Dw, listOf wv.toArray nv), (Dr, listOf wr.toArray nr)] s ∧ @LT.lt Nat _ (Dq) ( Dv) ∧ @LT.lt Nat _ (Dn) ( Dv) ∧ @LT.lt Nat _ (Dw) ( Dv) ∧ @LT.lt Nat _ (Dr) ( Dv)) ?_ ?_
  · try k_fold
    walk_at "my_steps"
    exact ⟨rfl, _, At.intro (by assumption) (by assumption) (fun y => by rfl) (by walk_at "my_in"), by omega, by omega, by omega, by omega⟩
  clear F21 N20
  rintro _ ⟨Dv, ⟨h21, tk21, rfl, F22, N22⟩, lv1, lv2, lv3, lv4⟩
  have hm12 : many ≤ 12 := by omega
  have hm1 : 1 ≤ many := by omega
  have hsum := words_sum hWs
  refine cut (fun s => ∃ (u : Str → Option Value) (wz : List Value) (nz : Nat), At s₁ s₁.heap s₁.heap.objs.size (fun y => if y = Str.ofString "word" then u y else (fun z => if [Str.ofString "place"].contains z then u z else (fun y => if y = Str.ofString "values" then some (.ref Dv) else if y = Str.ofString "words" then some (.ref Dq) else if y = Str.ofString "lack" then some (.int lack tl) else if y = Str.ofString "many" then some (.int many tm) else if y = Str.ofString "names" then some (.ref Dn) else if y = Str.ofString "worths" then some (.ref Dw) else if y = Str.ofString "row" then some (.ref Dr) else (m2) y) z) y) [(Dv, listOf wz.toArray nz), (Dq, listOf wq.toArray nq), (Dn, listOf wm.toArray nm), (Dw, listOf wv.toArray nv), (Dr, listOf wr.toArray nr)] s ∧ IntsAre wz (fives Nn many)) ?_ ?_
  have hjw : (ss.map (·.length)).sum + ss.length ≤ 1048576 := by omega
  have hjl : (Str.join { cps := #[Int.toNat 10] } ss).length + 2 ≤ sizeLine := by
    have h1 := StrLaws.join_length_le { cps := #[Int.toNat 10] } ss
    have h2 : (PySem.Str.mk #[Int.toNat 10]).length = 1 := rfl
    rw [h2] at h1
    rw [sizeLine_eq]
    omega
  try k_fold
  with_unfolding_all refine' For_invVF F22 ?_ ?_ ?_
  · exact rfl
  · exact rfl
  focus (walk_at "my_stepsR")
  rename_i Ds ls hS kS eS aS FS NS lS qS
  have hS2 : StrsAre (strValues ls) ss := strs_as aS (eS.trans (words_split hWs (by omega)))
  clear eS aS qS
  with_unfolding_all refine' kst_strs (σ := List Value × Nat) (fun c => [(Dv, listOf c.1.toArray c.2), (Dq, listOf wq.toArray nq), (Dn, listOf wm.toArray nm), (Dw, listOf wv.toArray nv), (Dr, listOf wr.toArray nr)]) (fun _ => []) (fun _ => True) [Str.ofString "place"] (fun pre c => IntsAre c.1 ((List.range pre.length).map (fiveAt Nn many))) ([], 0) ?khs27 NS ?kls27 hS2 FS ?kfs27 ?kks27 ?kps27 ?tus27 ?dns27
  case khs27 => exact rfl
  case kls27 =>
    intro p hp
    simp only [List.mem_cons, List.not_mem_nil, or_false] at hp
    rcases hp with rfl | rfl | rfl | rfl | rfl
    · exact lS.1
    · exact lS.2.1
    · exact lS.2.2.1
    · exact lS.2.2.2.1
    · exact lS.2.2.2.2
  case kfs27 => exact trivial
  case kps27 => exact .nil
  case kks27 => intro p hp; cases hp
  case dns27 =>
    rintro ⟨wz, nz⟩ u h tk _ hinv F N
    dsimp only at hinv
    rw [rangeKs_length, hss] at hinv
    exact ⟨rfl, u, wz, nz, ⟨h, tk, rfl, F, N⟩, hinv⟩
  clear FS NS lS hS2 F22 N22
  rintro ⟨wz, nz⟩ pre wd t u h tk own hy hlt hoff _ hinv F N
  dsimp only at hinv
  have hwz : wz.length = pre.length := by simpa using hinv.length
  have hvr := five_range Nn many pre.length
  have hyw : WordOk (fiveAt Nn many pre.length) wd := by
    have := hWs pre.length hlt
    rw [List.getD_eq_getElem?_getD, hy] at this
    exact this
  obtain ⟨m3, hm3, F9⟩ : ∃ m3 : Str → Option Value, (∀ z, z ≠ Str.ofString "word" → [Str.ofString "place"].contains z = false → m3 z = (fun y => if y = Str.ofString "values" then some (.ref Dv) else if y = Str.ofString "words" then some (.ref Dq) else if y = Str.ofString "lack" then some (.int lack tl) else if y = Str.ofString "many" then some (.int many tm) else if y = Str.ofString "names" then some (.ref Dn) else if y = Str.ofString "worths" then some (.ref Dw) else if y = Str.ofString "row" then some (.ref Dr) else (m2) y) z) ∧ Fr s₁.heap s₁.heap.objs.size h (fun y => if y = Str.ofString "word" then some (.str wd t) else if y = Str.ofString "values" then some (.ref Dv) else if y = Str.ofString "names" then some (.ref Dn) else if y = Str.ofString "worths" then some (.ref Dw) else (m3) y) := by
    refine ⟨_, ?_, fr_over (Str.ofString "word") (fr_over (Str.ofString "values") (fr_over (Str.ofString "names") (fr_over (Str.ofString "worths") F rfl) rfl) rfl) rfl⟩
    intro z hz hs
    simp only [hz, if_false, kstB, hs, Bool.false_eq_true]
  have N9 : News s₁.heap s₁.heap.objs.size h ([(Dv, listOf wz.toArray nz), (Dq, listOf wq.toArray nq), (Dn, listOf wm.toArray nm), (Dw, listOf wv.toArray nv), (Dr, listOf wr.toArray nr)] ++ own) := N
  simp only [List.cons_append, List.nil_append] at N9
  clear F N
  obtain ⟨v, hvv⟩ : ∃ v : Int, fiveAt Nn many pre.length = v := ⟨_, rfl⟩
  rw [hvv] at hvr hyw
  obtain ⟨hv0, hv1⟩ := hvr
  have hnl : (names1 ++ names2).length = 32 := rfl
  have hwl : (worths1 ++ worths2).length = 32 := rfl
  have hwv : wv.length = 32 := hIv.length.trans rfl
  rcases hyw with rfl | ⟨pr, c, hpr, hcc, hc10, hc256, hcv⟩
  · have hwa := worths_at hv0 hv1
    try k_fold
    walk_at "my_steps"
    · exact absurd hwa (by assumption)
    · skip
      (rename News _ _ _ _ => nE); (rename Fr _ _ _ _ => fE)
      try simp only [List.push_toArray] at nE
      dsimp only [InvPostN]
      exact kst_end (⟨_, _⟩ : List Value × Nat) fE nE (List.forall_mem_cons.mpr ⟨List.Mem.head _, by k_allIn⟩) (by intro p hp; k_ownIn) rfl trivial (by intro p hp; cases hp) (by
        intro z z1 _ z3
        have c1 : z ≠ Str.ofString "place" := by simpa using z3
        have hz := hm3 z z1 z3
        simp only [c1, z1, if_false]
        by_cases e1 : z = Str.ofString "values"
        · subst e1; rfl
        by_cases e2 : z = Str.ofString "names"
        · subst e2; rfl
        by_cases e3 : z = Str.ofString "worths"
        · subst e3; rfl
        simp only [e1, e2, e3, if_false]
        rw [hz]
        simp only [e1, e2, e3, if_false]) (ints_next (by assumption : IntsAre wz ((List.range pre.length).map (fiveAt Nn many))) (hvv))
    · exact (is_name hv0 hv1 (by assumption)).elim
  · have hbc : Builtin.bitAnd (c : Int) 31 = v := by rw [bitAnd_m5]; omega
    try k_fold
    walk_at "my_steps"
    · exact (not_name hpr hcc (by assumption)).elim
    · skip
      (rename News _ _ _ _ => nE); (rename Fr _ _ _ _ => fE)
      try simp only [List.push_toArray] at nE
      dsimp only [InvPostN]
      exact kst_end (⟨_, _⟩ : List Value × Nat) fE nE (List.forall_mem_cons.mpr ⟨List.Mem.head _, by k_allIn⟩) (by intro p hp; k_ownIn) rfl trivial (by intro p hp; cases hp) (by
        intro z z1 _ z3
        have c1 : z ≠ Str.ofString "place" := by simpa using z3
        have hz := hm3 z z1 z3
        simp only [c1, z1, if_false]
        by_cases e1 : z = Str.ofString "values"
        · subst e1; rfl
        by_cases e2 : z = Str.ofString "names"
        · subst e2; rfl
        by_cases e3 : z = Str.ofString "worths"
        · subst e3; rfl
        simp only [e1, e2, e3, if_false]
        rw [hz]
        simp only [e1, e2, e3, if_false]) (ints_next (by assumption : IntsAre wz ((List.range pre.length).map (fiveAt Nn many))) (hvv.trans (by omega)))
  clear F22 N22
  rintro _ ⟨u29, wz, nz, ⟨h29, tk29, rfl, F29, N29⟩, hIz⟩
  obtain ⟨m4, F30⟩ : ∃ m4 : Str → Option Value, Fr s₁.heap s₁.heap.objs.size h29 (fun y => if y = Str.ofString "values" then some (.ref Dv) else if y = Str.ofString "lack" then some (.int lack tl) else if y = Str.ofString "many" then some (.int many tm) else if y = Str.ofString "row" then some (.ref Dr) else (m4) y) := ⟨_, fr_over (Str.ofString "values") (fr_over (Str.ofString "lack") (fr_over (Str.ofString "many") (fr_over (Str.ofString "row") F29 rfl) rfl) rfl) rfl⟩
  clear F29
  have hzl : wz.length = many := by have := hIz.length; simpa [fives] using this
  have hfl : (fives Nn many).length = many := by simp [fives]
  have hmul : IntMulOk (num 256 (ns.map fun x => x.fmod 256)) (2 ^ Int.toNat (lack : Int)) := mulOk_row (r_in ns) (by rw [hlen]; omega) (by omega)
  have hl0 : 0 ≤ (lack : Int) := by omega
  have hl4 : (lack : Int) ≤ 4 := by omega
  have hend : num 32 (fives Nn many) = num 256 (ns.map fun x => x.fmod 256) * 2 ^ Int.toNat (lack : Int) := (num_fives hN0.1 hN0.2).trans hNn.symm
  try k_fold
  walk_at "my_stepsFor"
  · skip
    dsimp only
    rename_i ga La ha0 FGa Ba Xa Ta lf1  ha Fa Na
    obtain ⟨m0, t0, t6, Fd⟩ : ∃ (m0 : Str → Option Value) (t0 t6 : Tok), Fr ga La ha (fun y => if y = Str.ofString "number" then some (.int 0 t0) else if y = Str.ofString "values" then some (.ref Dv) else if y = Str.ofString "base" then some (.int 32 t6) else (m0) y) := ⟨_, _, _, fr_over (Str.ofString "number") (fr_over (Str.ofString "values") (fr_over (Str.ofString "base") Fa rfl) rfl) rfl⟩
    clear Fa
    refine cut (fun s => ∃ (u : Str → Option Value) (ta : Tok), At s₁ ga La (fun y => if y = Str.ofString "value" then u y else (fun y => if y = Str.ofString "number" then some (.int (num 32 (fives Nn many)) ta) else if y = Str.ofString "number" then some (.int 0 t0) else if y = Str.ofString "values" then some (.ref Dv) else if y = Str.ofString "base" then some (.int 32 t6) else (m0) y) y) [(Dv, listOf wz.toArray nz), (Dq, listOf wq.toArray nq), (Dn, listOf wm.toArray nm), (Dw, listOf wv.toArray nv), (Dr, listOf wr.toArray nr)] s) ?_ ?_
    · with_unfolding_all refine' For_invVF Fd ?_ ?_ ?_
      · exact rfl
      · exact rfl
      walk1
      try dsimp only
      with_unfolding_all refine' kst_listL (σ := Int × Tok) (ns := fives Nn many) (vs := wz) (nn := nz) (fun _ => [(Dv, listOf wz.toArray nz), (Dq, listOf wq.toArray nq), (Dn, listOf wm.toArray nm), (Dw, listOf wv.toArray nv), (Dr, listOf wr.toArray nr)]) (fun c => [(Str.ofString "number", .int c.1 c.2)]) (fun _ => True) [] (fun pre c => c.1 = num 32 pre) (0, t0) ?khs29n1 ?kls29n1 ?kis29n1 ?kFs29n1 ?kNs29n1 ?kfs29n1 ?kks29n1 ?kps29n1 ?_ ?_
      case khs29n1 => exact rfl
      case kls29n1 => intro _; k_mem
      case kis29n1 => exact hIz
      case kFs29n1 => exact Fd
      case kNs29n1 => exact Na
      case kfs29n1 => exact trivial
      case kps29n1 => exact rfl
      case kks29n1 =>
        intro p hp
        rcases List.mem_cons.mp hp with rfl | hp
        · rfl
        · cases hp
      · rintro ⟨c, tc⟩ pre post n t u h tk own hpre hmem hoff _ hinv F N
        dsimp only at hinv
        simp only [kstB] at F
        try dsimp only at N
        have F9 : Fr ga La h (fun y => if y = Str.ofString "value" then some (.int n t) else if y = Str.ofString "number" then some (.int c tc) else if y = Str.ofString "number" then some (.int 0 t0) else if y = Str.ofString "values" then some (.ref Dv) else if y = Str.ofString "base" then some (.int 32 t6) else (m0) y) := F
        have N9 : News ga La h ([(Dv, listOf wz.toArray nz), (Dq, listOf wq.toArray nq), (Dn, listOf wm.toArray nm), (Dw, listOf wv.toArray nv), (Dr, listOf wr.toArray nr)] ++ own) := N
        simp only [List.cons_append, List.nil_append] at N9
        clear F N
        try k_fold
        walk_at "my_steps"
        (rename News _ _ _ _ => nE); (rename Fr _ _ _ _ => fE)
        dsimp only [InvPostN]
        exact kst_end (⟨c * 32 + n, _⟩ : Int × Tok) fE nE (by k_allIn) (by intro p hp; k_ownIn) rfl trivial (List.forall_mem_cons.mpr ⟨rfl, List.forall_mem_nil _⟩) (by
          intro z z1 z2 _
          have a := z2 _ (List.Mem.head _)
          simp only [a, z1, if_false]) (by
          dsimp only
          rw [num_snoc, hinv])
      · rintro ⟨c, tc⟩ u h tk _ hinv F N
        dsimp only at hinv
        subst hinv
        exact ⟨rfl, u, tc, ⟨h, tk, rfl, F, N⟩⟩
    clear Fd Na
    rintro _ ⟨u, ta, hg', tkg, rfl, Fg, Ng⟩
    try k_fold
    walk_at "my_stepsFor"
    dsimp only
    rename_i ga La ha0 FGa Ba Xa Ta lf1 lf2 ha Fa Na
    obtain ⟨m0, t0, t6, Fd⟩ : ∃ (m0 : Str → Option Value) (t0 t6 : Tok), Fr ga La ha (fun y => if y = Str.ofString "number" then some (.int 0 t0) else if y = Str.ofString "values" then some (.ref Dr) else if y = Str.ofString "base" then some (.int 256 t6) else (m0) y) := ⟨_, _, _, fr_over (Str.ofString "number") (fr_over (Str.ofString "values") (fr_over (Str.ofString "base") Fa rfl) rfl) rfl⟩
    clear Fa
    refine cut (fun s => ∃ (u : Str → Option Value) (ta : Tok), At s₁ ga La (fun y => if y = Str.ofString "value" then u y else (fun y => if y = Str.ofString "number" then some (.int (num 256 ((ns.map fun x => x.fmod 256))) ta) else if y = Str.ofString "number" then some (.int 0 t0) else if y = Str.ofString "values" then some (.ref Dr) else if y = Str.ofString "base" then some (.int 256 t6) else (m0) y) y) [(Dv, listOf wz.toArray nz), (Dq, listOf wq.toArray nq), (Dn, listOf wm.toArray nm), (Dw, listOf wv.toArray nv), (Dr, listOf wr.toArray nr)] s) ?_ ?_
    · with_unfolding_all refine' For_invVF Fd ?_ ?_ ?_
      · exact rfl
      · exact rfl
      walk1
      try dsimp only
      with_unfolding_all refine' kst_listL (σ := Int × Tok) (ns := (ns.map fun x => x.fmod 256)) (vs := wr) (nn := nr) (fun _ => [(Dv, listOf wz.toArray nz), (Dq, listOf wq.toArray nq), (Dn, listOf wm.toArray nm), (Dw, listOf wv.toArray nv), (Dr, listOf wr.toArray nr)]) (fun c => [(Str.ofString "number", .int c.1 c.2)]) (fun _ => True) [] (fun pre c => c.1 = num 256 pre) (0, t0) ?khs29n2 ?kls29n2 ?kis29n2 ?kFs29n2 ?kNs29n2 ?kfs29n2 ?kks29n2 ?kps29n2 ?_ ?_
      case khs29n2 => exact rfl
      case kls29n2 => intro _; k_mem
      case kis29n2 => exact hIr
      case kFs29n2 => exact Fd
      case kNs29n2 => exact Na
      case kfs29n2 => exact trivial
      case kps29n2 => exact rfl
      case kks29n2 =>
        intro p hp
        rcases List.mem_cons.mp hp with rfl | hp
        · rfl
        · cases hp
      · rintro ⟨c, tc⟩ pre post n t u h tk own hpre hmem hoff _ hinv F N
        dsimp only at hinv
        simp only [kstB] at F
        try dsimp only at N
        have F9 : Fr ga La h (fun y => if y = Str.ofString "value" then some (.int n t) else if y = Str.ofString "number" then some (.int c tc) else if y = Str.ofString "number" then some (.int 0 t0) else if y = Str.ofString "values" then some (.ref Dr) else if y = Str.ofString "base" then some (.int 256 t6) else (m0) y) := F
        have N9 : News ga La h ([(Dv, listOf wz.toArray nz), (Dq, listOf wq.toArray nq), (Dn, listOf wm.toArray nm), (Dw, listOf wv.toArray nv), (Dr, listOf wr.toArray nr)] ++ own) := N
        simp only [List.cons_append, List.nil_append] at N9
        clear F N
        try k_fold
        walk_at "my_steps"
        (rename News _ _ _ _ => nE); (rename Fr _ _ _ _ => fE)
        dsimp only [InvPostN]
        exact kst_end (⟨c * 256 + n, _⟩ : Int × Tok) fE nE (by k_allIn) (by intro p hp; k_ownIn) rfl trivial (List.forall_mem_cons.mpr ⟨rfl, List.forall_mem_nil _⟩) (by
          intro z z1 z2 _
          have a := z2 _ (List.Mem.head _)
          simp only [a, z1, if_false]) (by
          dsimp only
          rw [num_snoc, hinv])
      · rintro ⟨c, tc⟩ u h tk _ hinv F N
        dsimp only at hinv
        subst hinv
        exact ⟨rfl, u, tc, ⟨h, tk, rfl, F, N⟩⟩
    clear Fd Na
    rintro _ ⟨u, ta, hg', tkg, rfl, Fg, Ng⟩
    try k_fold
    walk_at "my_steps"
    rw [hend, beq_self_eq_true]
    wrow_close
  · exact absurd (congrArg (fun n : Nat => (n : Int)) hfl) (by assumption)
theorem PySem.Challenge.cw_mg0023_01_holds : PySem.Challenge.rw_mg0023_01.Holds := by
  exact Mine.law_holds
