import PyProof.Rows.All
import Wide.All
import OpenK.AllK
import Wide.FinOn
import PySem.Challenge.RW_pd0091_01
open PySem PySem.W PyProof.Rows
set_option Elab.async false
namespace Mine
open PySem.Calls PyProof.V PySem.Spec

theorem oct_in (l : List Int) : KBa.In (List.map
    (fun k' : Int =>
      if k'.fmod 8 = 0 then 255
      else if k'.fmod 8 = 1 then 255
      else if k'.fmod 8 = 2 then 252
      else if k'.fmod 8 = 3 then 63
      else if k'.fmod 8 = 4 then 240
      else if k'.fmod 8 = 5 then 15
      else if k'.fmod 8 = 6 then 0 else if k'.fmod 8 = 7 then (k'.fdiv 8).fmod 256 else k') l ++ [255, 240, 0, 0, 15, 255]) := by
  intro n hn
  rcases List.mem_append.1 hn with h | h
  · obtain ⟨k, _, rfl⟩ := List.mem_map.1 h
    have h1 := Int.emod_nonneg k (show (8 : Int) ≠ 0 by decide)
    have h2 := Int.emod_lt_of_pos k (show (0 : Int) < 8 by decide)
    have h3 := Int.emod_nonneg (k / 8) (show (256 : Int) ≠ 0 by decide)
    have h4 := Int.emod_lt_of_pos (k / 8) (show (0 : Int) < 256 by decide)
    simp only [Int.fmod_eq_emod_of_nonneg _ (show (0 : Int) ≤ 8 by decide), Int.fmod_eq_emod_of_nonneg _ (show (0 : Int) ≤ 256 by decide), Int.fdiv_eq_ediv_of_nonneg _ (show (0 : Int) ≤ 8 by decide)]
    repeat' split
    all_goals omega
  · simp only [List.mem_cons, List.not_mem_nil, or_false] at h
    rcases h with rfl | rfl | rfl | rfl | rfl | rfl <;> decide

section
variable {prog : Program} {w : World} {A : Around} {E : Value → Shared → Prop} {s : Shared} {h₀ : Heap} {L D : Addr} {m : PySem.Str → Option Value} {news : List (Addr × Obj)} {vs : List Value} {l : List Int}
theorem make_os {Q : Value → Shared → Prop} (F : Fr h₀ L s.heap m) (N : News h₀ L s.heap news) (hh : A.handled = none) (hl : s.heap.IsList D vs.toArray)
    (hi : IntsAre vs (List.map
    (fun k' : Int =>
      if k'.fmod 8 = 0 then 255
      else if k'.fmod 8 = 1 then 255
      else if k'.fmod 8 = 2 then 252
      else if k'.fmod 8 = 3 then 63
      else if k'.fmod 8 = 4 then 240
      else if k'.fmod 8 = 5 then 15
      else if k'.fmod 8 = 6 then 0 else if k'.fmod 8 = 7 then (k'.fdiv 8).fmod 256 else k') (l.take 3) ++ [255, 240, 0, 0, 15, 255]))
    (h : ∀ os h' t' k, 6 ≤ os.length → os.length ≤ 9 → KBa.In os → IntsAre vs os → Fr h₀ L h' m → News h₀ L h' news → Q (.bytes (byteArr os) t') { s with heap := h', toks := k }) :
    wpAny (model prog w) A (call (.type "bytes") [.ref D]) Q E s := by
  have hlen := hi.length
  have h9 := List.length_take_le 3 l
  refine KBa.make_K F N hh hl hi (oct_in _) ?_ fun h' t' k F' N' hin => h _ h' t' k ?_ ?_ hin hi F' N'
  all_goals (simp only [List.length_append, List.length_map, List.length_cons, List.length_nil]; omega)
end
end Mine
namespace Mine
open PySem PySem.W PyProof.Rows
def num (l : List Int) : Int := l.foldl (fun a b => a * 256 + b) 0
def tab : List Int := [65, 66, 67, 68, 69, 70, 71, 72, 73, 74, 75, 76, 77, 78, 79, 80, 81, 82, 83, 84, 85, 86, 87, 88, 89, 90, 97, 98, 99, 100, 101, 102, 103, 104, 105, 106, 107, 108, 109, 110, 111, 112, 113, 114, 115, 116, 117, 118, 119, 120, 121, 122, 48, 49, 50, 51, 52, 53, 54, 55, 56, 57, 43, 47]
structure Enc (pre out : List Int) (lb lc : Int) : Prop where
  hb : lb = 2 * ((pre.length : Int) % 3)
  hc : lc = num pre % 65536
  ho : out = (List.range (8 * pre.length / 6)).map fun k => tab.getD (num pre / 2 ^ (8 * pre.length - 6 * k - 6) % 64).toNat 0
end Mine
namespace Mine
theorem enc_start : ((0 : Int) ≤ 0 ∧ (0 : Int) < 65536) ∧ ([] : List Int).length ≤ 2 * ([] : List Int).length ∧ ((0 : Int) = 0 ∨ (0 : Int) = 2 ∨ (0 : Int) = 4) ∧ Enc [] [] 0 0 :=
  ⟨by decide, by decide, by decide, ⟨by decide, by decide, by decide⟩⟩
end Mine
namespace Mine
open PySem.Calls PyProof.V PySem.Spec

/-! bits, as this text uses them -/
theorem land_low (a : Int) {n : Int} (h0 : 0 ≤ n) (h1 : n < 256) : Builtin.bitAnd (a * 256) n = 0 := by
  have e : ∀ k : Nat, k < 9 → ∀ a n : Int, 0 ≤ n → n < 2 ^ k → Builtin.bitAnd (a * 2 ^ k) n = 0 := by
    intro k
    induction k with
    | zero =>
      intro _ a n h0 h1
      have : n = 0 := by simp at h1; omega
      subst this
      rw [bitAnd_comm, kbt_halves]
      have h2 := bitAnd_range ((a * 2 ^ 0) / 2) (y := 0) (by decide)
      rw [bitAnd_comm] at h2
      simp only [Int.zero_ediv]
      omega
    | succ k ih =>
      intro hk a n h0 h1
      rw [kbt_halves]
      have e1 : a * 2 ^ (k + 1) / 2 = a * 2 ^ k := by
        rw [Int.pow_succ, ← Int.mul_assoc]; omega
      have e2 : a * 2 ^ (k + 1) % 2 = 0 := by
        rw [Int.pow_succ, ← Int.mul_assoc]; omega
      rw [e1, e2, ih (by omega) a (n / 2) (by omega) (by rw [Int.pow_succ] at h1; omega)]
      simp
  exact e 8 (by decide) a n h0 h1
theorem lor_low (a : Int) {n : Int} (h0 : 0 ≤ n) (h1 : n < 256) : Builtin.bitOr (a * 256) n = a * 256 + n := by
  rw [bitOr_and, land_low a h0 h1]; omega

section
variable {prog : Program} {w : World} {A : Around} {E : Value → Shared → Prop} {s : Shared} {Q : Value → Shared → Prop} {a b n d : Int} {t u : Tok}
theorem shl_to (d : Int) (hn : 0 ≤ n) (hn2 : n ≤ 1000000) (ha : a.natAbs < 2 ^ 64) (hd : 2 ^ n.toNat = d) (h : ∀ t' k, Q (.int (a * d) t') { s with toks := k }) : wpAny (model prog w) A (binaryOp .LShift (.int a t) (.int n u)) Q E s := by
  subst hd; exact lshift_int_small hn hn2 ha (h _ _)
theorem shr_to (d : Int) (hn : 0 ≤ n) (hd : 2 ^ n.toNat = d) (hp : 0 ≤ d) (h : ∀ t' k, Q (.int (a / d) t') { s with toks := k }) : wpAny (model prog w) A (binaryOp .RShift (.int a t) (.int n u)) Q E s := by
  subst hd
  refine rshift_int hn ?_
  rw [Int.fdiv_eq_ediv_of_nonneg _ hp]
  exact h _ _
theorem and_63 (h : ∀ t' k, 0 ≤ a % 64 → a % 64 < 64 → Q (.int (a % 64) t') { s with toks := k }) : wpAny (model prog w) A (binaryOp .BitAnd (.int a t) (.int 63 u)) Q E s := by
  refine and_int ?_; rw [bitAnd_m6]; exact h _ _ (by omega) (by omega)
theorem and_3 (h : ∀ t' k, 0 ≤ a % 4 → a % 4 < 4 → Q (.int (a % 4) t') { s with toks := k }) : wpAny (model prog w) A (binaryOp .BitAnd (.int a t) (.int 3 u)) Q E s := by
  refine and_int ?_; rw [bitAnd_m2]; exact h _ _ (by omega) (by omega)
theorem and_15 (h : ∀ t' k, 0 ≤ a % 16 → a % 16 < 16 → Q (.int (a % 16) t') { s with toks := k }) : wpAny (model prog w) A (binaryOp .BitAnd (.int a t) (.int 15 u)) Q E s := by
  refine and_int ?_; rw [bitAnd_m4]; exact h _ _ (by omega) (by omega)
theorem and_65535 (h : ∀ t' k, Q (.int (a % 65536) t') { s with toks := k }) : wpAny (model prog w) A (binaryOp .BitAnd (.int a t) (.int 65535 u)) Q E s := by
  refine and_int ?_; rw [bitAnd_m16]; exact h _ _
theorem or_8 (h0 : 0 ≤ n) (h1 : n < 256) (h : ∀ t' k, Q (.int (a * 256 + n) t') { s with toks := k }) : wpAny (model prog w) A (binaryOp .BitOr (.int (a * 256) t) (.int n u)) Q E s := by
  refine or_int ?_; rw [lor_low a h0 h1]; exact h _ _
theorem tab_ints : KBw.bInts #[65, 66, 67, 68, 69, 70, 71, 72, 73, 74, 75, 76, 77, 78, 79, 80, 81, 82, 83, 84, 85, 86, 87, 88, 89, 90, 97, 98, 99, 100, 101, 102, 103, 104, 105, 106, 107, 108, 109, 110, 111, 112, 113, 114, 115, 116, 117, 118, 119, 120, 121, 122, 48, 49, 50, 51, 52, 53, 54, 55, 56, 57, 43, 47] = tab := by decide
theorem tab_at {value slice : PySem.Expr} {ui : Tok} {i : Int} (h0 : 0 ≤ i) (h1 : i < 64)
    (h : ∀ t' k, Q (.int (tab.getD i.toNat 0) t') { s with toks := k })
    (hs : subscripted slice false (.bytes #[65, 66, 67, 68, 69, 70, 71, 72, 73, 74, 75, 76, 77, 78, 79, 80, 81, 82, 83, 84, 85, 86, 87, 88, 89, 90, 97, 98, 99, 100, 101, 102, 103, 104, 105, 106, 107, 108, 109, 110, 111, 112, 113, 114, 115, 116, 117, 118, 119, 120, 121, 122, 48, 49, 50, 51, 52, 53, 54, 55, 56, 57, 43, 47] t) (.int i ui) = operate [.bytes #[65, 66, 67, 68, 69, 70, 71, 72, 73, 74, 75, 76, 77, 78, 79, 80, 81, 82, 83, 84, 85, 86, 87, 88, 89, 90, 97, 98, 99, 100, 101, 102, 103, 104, 105, 106, 107, 108, 109, 110, 111, 112, 113, 114, 115, 116, 117, 118, 119, 120, 121, 122, 48, 49, 50, 51, 52, 53, 54, 55, 56, 57, 43, 47] t, .int i ui] (getItem (.bytes #[65, 66, 67, 68, 69, 70, 71, 72, 73, 74, 75, 76, 77, 78, 79, 80, 81, 82, 83, 84, 85, 86, 87, 88, 89, 90, 97, 98, 99, 100, 101, 102, 103, 104, 105, 106, 107, 108, 109, 110, 111, 112, 113, 114, 115, 116, 117, 118, 119, 120, 121, 122, 48, 49, 50, 51, 52, 53, 54, 55, 56, 57, 43, 47] t) (.int i ui)))
    (ht : ∀ r, letTemporaryGo value (.bytes #[65, 66, 67, 68, 69, 70, 71, 72, 73, 74, 75, 76, 77, 78, 79, 80, 81, 82, 83, 84, 85, 86, 87, 88, 89, 90, 97, 98, 99, 100, 101, 102, 103, 104, 105, 106, 107, 108, 109, 110, 111, 112, 113, 114, 115, 116, 117, 118, 119, 120, 121, 122, 48, 49, 50, 51, 52, 53, 54, 55, 56, 57, 43, 47] t) r = pure ()) :
    wpAny (model prog w) A (subscriptTail value slice (.bytes #[65, 66, 67, 68, 69, 70, 71, 72, 73, 74, 75, 76, 77, 78, 79, 80, 81, 82, 83, 84, 85, 86, 87, 88, 89, 90, 97, 98, 99, 100, 101, 102, 103, 104, 105, 106, 107, 108, 109, 110, 111, 112, 113, 114, 115, 116, 117, 118, 119, 120, 121, 122, 48, 49, 50, 51, 52, 53, 54, 55, 56, 57, 43, 47] t) (.int i ui)) Q E s :=
  KBw.item_K tab_ints (by decide) h0 (by rw [show tab.length = 64 from rfl]; exact h1) (fun t' k _ _ => h t' k) hs ht
end

/-! the state of the encoder, turn by turn -/
theorem num_snoc (pre : List Int) (n : Int) : num (pre ++ [n]) = num pre * 256 + n := by
  simp [num, List.foldl_append]
theorem cut8 (N : Int) {n : Int} (h0 : 0 ≤ n) (h1 : n < 256) (e : Nat) : (N * 256 + n) / 2 ^ (e + 8) = N / 2 ^ e := by
  rw [show (2 : Int) ^ (e + 8) = 256 * 2 ^ e from by rw [Int.pow_add]; rw [Int.mul_comm]; rfl, ← Int.ediv_ediv_of_nonneg (by decide)]
  congr 1
  omega
theorem old_part {pre : List Int} {n : Int} (h0 : 0 ≤ n) (h1 : n < 256) (m : Nat) (hm : 6 * m ≤ 8 * pre.length) :
    ((List.range m).map fun k => tab.getD (num (pre ++ [n]) / 2 ^ (8 * (pre ++ [n]).length - 6 * k - 6) % 64).toNat 0) = (List.range m).map fun k => tab.getD (num pre / 2 ^ (8 * pre.length - 6 * k - 6) % 64).toNat 0 := by
  refine List.map_congr_left fun k hk => ?_
  have hk' : k < m := List.mem_range.1 hk
  rw [num_snoc, List.length_append, List.length_singleton]
  rw [show 8 * (pre.length + 1) - 6 * k - 6 = (8 * pre.length - 6 * k - 6) + 8 by omega, cut8 _ h0 h1]
theorem low16 (M : Int) : ∀ e : Nat, e ≤ 10 → (M % 65536) / 2 ^ e % 64 = M / 2 ^ e % 64 := by
  intro e he
  have h : e = 0 ∨ e = 1 ∨ e = 2 ∨ e = 3 ∨ e = 4 ∨ e = 5 ∨ e = 6 ∨ e = 7 ∨ e = 8 ∨ e = 9 ∨ e = 10 := by omega
  rcases h with rfl | rfl | rfl | rfl | rfl | rfl | rfl | rfl | rfl | rfl | rfl <;> simp only [Int.reducePow] <;> omega
abbrev Word (pre out : List Int) (lb lc : Int) : Prop := (0 ≤ lc ∧ lc < 65536) ∧ out.length ≤ 2 * pre.length ∧ (lb = 0 ∨ lb = 2 ∨ lb = 4) ∧ Enc pre out lb lc
theorem lc_next {pre : List Int} {lc n : Int} (h : lc = num pre % 65536) : (lc * 256 + n) % 65536 = num (pre ++ [n]) % 65536 := by
  rw [num_snoc]; omega
theorem enc_s0 {pre out : List Int} {lc n : Int} (h : Enc pre out 0 lc) (hl : out.length ≤ 2 * pre.length) (h0 : 0 ≤ n) (h1 : n < 256) :
    Word (pre ++ [n]) (out ++ [tab.getD ((lc * 256 + n) % 65536 / 4 % 64).toNat 0]) (0 + 8 - 6) ((lc * 256 + n) % 65536) := by
  have hb := h.hb
  refine ⟨by omega, by simp only [List.length_append, List.length_singleton]; omega, by decide, ?_, lc_next h.hc, ?_⟩
  · simp only [List.length_append, List.length_singleton]; omega
  · rw [h.ho, List.length_append, List.length_singleton]
    rw [show 8 * (pre.length + 1) / 6 = 8 * pre.length / 6 + 1 by omega, List.range_succ, List.map_append, ← List.length_singleton (a := n), ← List.length_append, old_part h0 h1 _ (by omega), List.map_singleton, lc_next h.hc]
    congr 3
    rw [show 8 * (pre ++ [n]).length - 6 * (8 * pre.length / 6) - 6 = 2 by simp only [List.length_append, List.length_singleton]; omega, ← low16 _ 2 (by decide)]
    rfl
theorem enc_s2 {pre out : List Int} {lc n : Int} (h : Enc pre out 2 lc) (hl : out.length ≤ 2 * pre.length) (h0 : 0 ≤ n) (h1 : n < 256) :
    Word (pre ++ [n]) (out ++ [tab.getD ((lc * 256 + n) % 65536 / 16 % 64).toNat 0]) (2 + 8 - 6) ((lc * 256 + n) % 65536) := by
  have hb := h.hb
  refine ⟨by omega, by simp only [List.length_append, List.length_singleton]; omega, by decide, ?_, lc_next h.hc, ?_⟩
  · simp only [List.length_append, List.length_singleton]; omega
  · rw [h.ho, List.length_append, List.length_singleton]
    rw [show 8 * (pre.length + 1) / 6 = 8 * pre.length / 6 + 1 by omega, List.range_succ, List.map_append, ← List.length_singleton (a := n), ← List.length_append, old_part h0 h1 _ (by omega), List.map_singleton, lc_next h.hc]
    congr 3
    rw [show 8 * (pre ++ [n]).length - 6 * (8 * pre.length / 6) - 6 = 4 by simp only [List.length_append, List.length_singleton]; omega, ← low16 _ 4 (by decide)]
    rfl
theorem enc_s4 {pre out : List Int} {lc n : Int} (h : Enc pre out 4 lc) (hl : out.length ≤ 2 * pre.length) (h0 : 0 ≤ n) (h1 : n < 256) :
    Word (pre ++ [n]) (out ++ [tab.getD ((lc * 256 + n) % 65536 / 64 % 64).toNat 0] ++ [tab.getD ((lc * 256 + n) % 65536 / 1 % 64).toNat 0]) (4 + 8 - 6 - 6) ((lc * 256 + n) % 65536) := by
  have hb := h.hb
  refine ⟨by omega, by simp only [List.length_append, List.length_singleton]; omega, by decide, ?_, lc_next h.hc, ?_⟩
  · simp only [List.length_append, List.length_singleton]; omega
  · rw [h.ho, List.length_append, List.length_singleton]
    rw [show 8 * (pre.length + 1) / 6 = 8 * pre.length / 6 + 1 + 1 by omega, List.range_succ, List.range_succ, List.map_append, List.map_append, ← List.length_singleton (a := n), ← List.length_append, old_part h0 h1 _ (by omega), List.map_singleton, List.map_singleton, lc_next h.hc]
    congr 3
    · congr 2
      rw [show 8 * (pre ++ [n]).length - 6 * (8 * pre.length / 6) - 6 = 6 by simp only [List.length_append, List.length_singleton]; omega, ← low16 _ 6 (by decide)]
      rfl
    · rw [show 8 * (pre ++ [n]).length - 6 * (8 * pre.length / 6 + [n].length) - 6 = 0 by simp only [List.length_append, List.length_singleton]; omega, ← low16 _ 0 (by decide)]
      rfl
end Mine
namespace Mine
open PySem.Calls PyProof.V PySem.Spec Builtin
theorem forIn_cells {σ : Type} {f : Nat → Nat × Array Nat × σ → Sem (ForInStep (Nat × Array Nat × σ))} (l : List Nat) (st : σ)
    (hf : ∀ x p, p < l.length → f x (p, (l.take p).toArray, st) = pure (.yield (p + 1, (l.take (p + 1)).toArray, st))) :
    ∀ n i, i + n = l.length → forIn (List.range' i n) (i, (l.take i).toArray, st) f = pure (i + n, (l.take (i + n)).toArray, st)
  | 0, i, _ => by simp
  | n + 1, i, h => by
    rw [List.range'_succ, List.forIn_cons, hf i i (by omega), pure_bind]
    show forIn (List.range' (i + 1) n) (i + 1, (l.take (i + 1)).toArray, st) f = _
    rw [forIn_cells l st hf n (i + 1) (by omega), show i + 1 + n = i + (n + 1) by omega]
theorem forIn_cells0 {σ β : Type} {f : Nat → Nat × Array Nat × σ → Sem (ForInStep (Nat × Array Nat × σ))} {g : Nat × Array Nat × σ → Sem β} (l : List Nat) (st : σ) {n : Nat} (hn : n = l.length)
    (hf : ∀ x p, p < l.length → f x (p, (l.take p).toArray, st) = pure (.yield (p + 1, (l.take (p + 1)).toArray, st))) :
    (forIn (List.range' 0 n) (0, #[], st) f >>= g) = g (n, l.toArray, st) := by
  have h := forIn_cells l st hf n 0 (by omega)
  rw [Nat.zero_add, hn, List.take_length, List.take_zero] at h
  rw [hn, h, pure_bind]
theorem run_ascii (id : String) (b : Array UInt8) (hb : ∀ c ∈ b.toList, c.toNat < 128) (hsz : b.size ≤ sizeLine) :
    _codecs.runDecoder id _codecs.asciiDecoder none true b 0 [] = pure ((b.toList.map (·.toNat)).toArray, b.size) := by
  have hl : (b.toList.map (·.toNat)).length = b.size := by simp
  unfold _codecs.runDecoder
  simp only [Std.Legacy.Range.forIn_eq_forIn_range', Std.Legacy.Range.size]
  rw [show (b.size - 0 + 1 - 1) / 1 = b.size by omega]
  refine forIn_cells0 (b.toList.map (·.toNat)) _ hl.symm ?_
  · intro x p hp
    rw [hl] at hp
    dsimp only
    have h1 : ¬ ((b.toList.map (·.toNat)).take p).toArray.size > sizeLine := by
      rw [List.size_toArray, List.length_take, hl]; omega
    rw [if_neg h1, if_neg (by omega)]
    have hc : b.getD p 0 = b[p] := by simp [Array.getD, hp]
    have h2 : (b[p]).toNat < 128 := hb _ (by simp)
    have h3 : _codecs.asciiDecoder.find true b p = .text [(b[p]).toNat] (p + 1) := by
      show (if (b.getD p 0).toNat < 128 then _ else _) = _
      rw [hc, if_pos h2]
      rfl
    rw [h3]
    have h4 : (b.toList.map (·.toNat))[p]? = some (b[p]).toNat := by simp [hp]
    have h5 : (b.toList.map (·.toNat)).take (p + 1) = (b.toList.map (·.toNat)).take p ++ [(b[p]).toNat] := by
      rw [List.take_add_one, h4]; rfl
    rw [h5]
    simp
end Mine
namespace Mine
open PySem.Calls PyProof.V PySem.Spec Builtin
set_option maxRecDepth 100000

theorem args_decode2 (a b : Value) : argsOk "bytes.decode" ⟨[a, b], []⟩ := by
  unfold argsOk; rw [signature?_of (id := "bytes.decode") (n := ['e', 'd', 'o', 'c', 'e', 'd']) (o := ['s', 'e', 't', 'y', 'b']) (by kernel_rfl) FB.owner_bytes]; kernel_rfl
section
variable {b : Array UInt8} {c : UInt8} {cs : List UInt8} {t u : Tok} {x : PySem.Str} {n : Nat}
theorem ascii_road {id : String} : _codecs.decodeRoad id b (PySem.Str.ofString "ascii") none [] = (_codecs.runDecoder id _codecs.asciiDecoder none true b 0 [] >>= fun r => mkStr ⟨r.1⟩) := by kernel_rfl
theorem ascii_text {t1 t2 : Tok} {d : PySem.Str} (hd : ∀ id, _codecs.runDecoder id _codecs.asciiDecoder none true b 0 [] = pure (x.cps, n)) :
    Meets («_codecs.decode.text» ⟨[.bytes b t, .str (PySem.Str.ofString "ascii") t1, .none, .str d t2], []⟩) (fun _ R s => x.length ≤ sizeLine ∧ R (.ok (.ret (.str x s.toks))) { s with toks := s.toks + 1 }) := by
  refine .of_wp fun prog w A R s hS => ?_
  obtain ⟨hsz, h⟩ := hS
  show wpAny _ _ (Bytes.bytesLike _ (.bytes b t) >>= fun r => _) _ _ s
  refine wpAny_bind (wpAny_of_eq KBd.like_eq ?_)
  refine wpAny_bind (wpAny_of_eq KBd.held_eq ?_)
  show wpAny _ _ (_codecs.decodeRoad _ b (PySem.Str.ofString "ascii") none [] >>= fun v => _) _ _ s
  rw [ascii_road, hd]
  refine wpAny_bind (wpAny_bind (wpAny_pure ?_))
  exact wpAny_mkStr (wpAny_pure ⟨_, rfl, h⟩) hsz
theorem ascii_entry : «bytes.decode» ⟨[.bytes (c :: cs).toArray t, .str (PySem.Str.ofString "ascii") u], []⟩ = (mkStr (PySem.Str.ofString "utf-8") >>= fun _ => mkStr (PySem.Str.ofString "ascii") >>= fun e => mkStr (PySem.Str.ofString "bytes.decode") >>= fun d =>
    call (.builtin "_codecs.decode.text") [.bytes (c :: cs).toArray t, e, .none, d] >>= fun v => ret v) := by kernel_rfl
theorem ascii_decode (hd : ∀ id, _codecs.runDecoder id _codecs.asciiDecoder none true (c :: cs).toArray 0 [] = pure (x.cps, n)) :
    Meets («bytes.decode» ⟨[.bytes (c :: cs).toArray t, .str (PySem.Str.ofString "ascii") u], []⟩) (fun _ R s => x.length ≤ sizeLine ∧ ∀ t' k, R (.ok (.ret (.str x t'))) { s with toks := k }) := by
  refine .of_wp fun prog w A R s hS => ?_
  obtain ⟨hsz, h⟩ := hS
  rw [ascii_entry]
  refine wpAny_bind (wpAny_mkStr ?_ (by decide))
  refine wpAny_bind (wpAny_mkStr ?_ (by decide))
  refine wpAny_bind (wpAny_mkStr ?_ (by decide))
  exact wpAny_bind (call_function_meets KBd.kind_text KBd.plain_text KBd.entry_text (KBd.args_text _ _ _ _) (ascii_text hd) ⟨hsz, wpAny_pure ⟨_, rfl, h _ _⟩⟩)
end
section
variable {prog : Program} {w : World} {A : Around} {E : Value → Shared → Prop} {s : Shared} {t u : Tok}
theorem call_ascii {b : Array UInt8} {Q : Value → Shared → Prop} (h0 : 0 < b.size) (hb : ∀ c ∈ b.toList, c.toNat < 128) (hsz : b.size ≤ 16777216)
    (h : ∀ t' k, Q (.str ⟨(b.toList.map (·.toNat)).toArray⟩ t') { s with toks := k }) :
    wpAny (model prog w) A (call (.builtin "bytes.decode") [.bytes b t, .str (PySem.Str.ofString "ascii") u]) Q E s := by
  obtain ⟨l⟩ := b
  cases l with
  | nil => exact absurd h0 (by simp)
  | cons c cs =>
    refine call_meets FB.slot_bytes_decode (typeIs_bytes _ _ _) FB.entry_bytes_decode (args_decode2 _ _) (ascii_decode (x := ⟨((c :: cs).map (·.toNat)).toArray⟩) (n := (c :: cs).toArray.size) fun id => run_ascii id _ hb (by rw [sizeLine_eq]; exact hsz)) ⟨?_, h⟩
    rw [sizeLine_eq]
    show ((c :: cs).map (·.toNat)).toArray.size ≤ _
    simpa using hsz
end

/-! bytes.translate with a table of 256 -/
theorem slot_tr : Slot "bytes" "translate" "bytes.translate" :=
  .of (owner := "bytes") (n := "translate") (by rw [typeLookup_type, builtinLookup_eq_fast]; kernel_rfl) (by decide +kernel) (by decide +kernel) (by decide +kernel)
    (by first | exact .inl (by decide +kernel) | exact .inr (by decide +kernel)) (by rw [isSubtype_type]; kernel_rfl)
theorem type_tr : typeOf (.builtin "bytes.translate") = pure (.type "method_descriptor") := by show builtinType _ = _; rw [builtinType_eq_fast]; kernel_rfl
theorem entry_tr : entryFor table "bytes.translate" = some Builtin.«bytes.translate» := entryFor_of_tree (by kernel_rfl)
theorem args_tr (a b : Value) : argsOk "bytes.translate" ⟨[a, b], []⟩ := by
  unfold argsOk; rw [signature?_of (id := "bytes.translate") (n := ['e', 't', 'a', 'l', 's', 'n', 'a', 'r', 't']) (o := ['s', 'e', 't', 'y', 'b']) (by kernel_rfl) FB.owner_bytes]; kernel_rfl
section
variable {prog : Program} {w : World} {A : Around} {E : Value → Shared → Prop} {s : Shared} {b tb : Array UInt8} {t u : Tok}
theorem meets_tr (hb9 : b.size ≤ 16777216) (h256 : tb.size = 256) : Meets («bytes.translate» ⟨[.bytes b t, .bytes tb u], []⟩) (fun _ R s => ∀ t' k, R (.ok (.ret (.bytes (b.map fun c => tb.getD c.toNat c) t'))) { s with toks := k }) := by
  refine .of_wp fun prog w A R s h => ?_
  show wpAny _ _ (Bytes.bytesLike _ (.bytes tb u) >>= fun r => _) _ _ s
  refine wpAny_bind (wpAny_of_eq KBd.like_eq ?_)
  dsimp only
  rw [if_neg (by simp [h256])]
  refine wpAny_bind (wpAny_pure ?_)
  show wpAny _ _ (pure #[] >>= fun delete => _) _ _ s
  refine wpAny_bind (wpAny_pure ?_)
  show wpAny _ _ (pure b >>= fun b_1 => _) _ _ s
  refine wpAny_bind (wpAny_pure ?_)
  have hf : Array.filter (fun x => !(#[] : Array UInt8).contains x) b = b := by simp
  dsimp only
  rw [hf]
  by_cases he : (Array.map (fun c => tb.getD c.toNat c) b == b) = true
  · rw [if_pos he]
    refine wpAny_bind (wpAny_rule ?_)
    show wpAny _ _ (pure (Value.bytes b t) >>= fun v => _) _ _ s
    refine wpAny_bind (wpAny_pure (wpAny_pure ⟨_, rfl, ?_⟩))
    have h9 := h t s.toks
    rw [eq_of_beq he] at h9
    exact h9
  · rw [if_neg he]
    exact wpAny_bind (wpAny_mkBytes (wpAny_pure ⟨_, rfl, h _ _⟩) (by rw [Array.size_map, sizeLine_eq]; exact hb9))
theorem call_tr {Q : Value → Shared → Prop} (hb9 : b.size ≤ 16777216) (h256 : tb.size = 256) (h : ∀ t' k, Q (.bytes (b.map fun c => tb.getD c.toNat c) t') { s with toks := k }) :
    wpAny (model prog w) A (call (.builtin "bytes.translate") [.bytes b t, .bytes tb u]) Q E s :=
  call_meets slot_tr (typeIs_bytes _ _ _) entry_tr (args_tr _ _) (meets_tr hb9 h256) h
theorem method_tr {M : Model} {pl : Sem Bool} {Q : Value × List Value → Shared → Prop} (h : Q (.builtin "bytes.translate", [.bytes b t]) s) : wpAny M A (getMethod (.bytes b t) "translate" pl) Q E s := by
  with_reducible exact KBd.method_of (.bytes b t) (typeIs_bytes _ _ _) slot_tr type_tr KBd.noRef h
end
end Mine
namespace Mine
open PySem.Calls PyProof.V PySem.Spec
set_option maxRecDepth 100000

def utab : List Int := [65, 66, 67, 68, 69, 70, 71, 72, 73, 74, 75, 76, 77, 78, 79, 80, 81, 82, 83, 84, 85, 86, 87, 88, 89, 90, 97, 98, 99, 100, 101, 102, 103, 104, 105, 106, 107, 108, 109, 110, 111, 112, 113, 114, 115, 116, 117, 118, 119, 120, 121, 122, 48, 49, 50, 51, 52, 53, 54, 55, 56, 57, 45, 95]
def six (os : List Int) (k : Nat) : Int := num os * 65536 / 2 ^ (8 * os.length + 10 - 6 * k) % 64
def signs (os : List Int) : Nat := (8 * os.length + 5) / 6
def chars (T : List Int) (os : List Int) : List Int := (List.range (signs os)).map fun k => T.getD (six os k).toNat 0
def Pad (p : List Int) : Prop := p = [] ∨ p = [61] ∨ p = [61, 61]
def Full (T os ns : List Int) : Prop := ∃ p, Pad p ∧ ns = chars T os ++ p

theorem shift16 (N : Int) (e : Nat) : N * 65536 / 2 ^ (e + 16) = N / 2 ^ e := by
  rw [Int.pow_add, show (2 : Int) ^ 16 = 65536 from rfl]
  exact Int.mul_ediv_mul_of_pos_left _ _ (by decide)
theorem head_part (os : List Int) (m : Nat) (hm : 6 * m ≤ 8 * os.length) :
    ((List.range m).map fun k => tab.getD (num os / 2 ^ (8 * os.length - 6 * k - 6) % 64).toNat 0) = (List.range m).map fun k => tab.getD (six os k).toNat 0 := by
  refine List.map_congr_left fun k hk => ?_
  have hk' : k < m := List.mem_range.1 hk
  unfold six
  rw [show 8 * os.length + 10 - 6 * k = (8 * os.length - 6 * k - 6) + 16 by omega, shift16]
theorem fin0 {os out : List Int} {lc : Int} (h : Enc os out 0 lc) : Full tab os out := by
  have hb := h.hb
  refine ⟨[], .inl rfl, ?_⟩
  rw [List.append_nil, h.ho, head_part _ _ (by omega)]
  unfold chars signs
  rw [show (8 * os.length + 5) / 6 = 8 * os.length / 6 by omega]
theorem fin2 {os out : List Int} {lc : Int} (h : Enc os out 2 lc) : Full tab os (out ++ [tab.getD (lc % 4 * 16).toNat 0, 61, 61]) := by
  have hb := h.hb
  refine ⟨[61, 61], .inr (.inr rfl), ?_⟩
  rw [h.ho, head_part _ _ (by omega)]
  unfold chars signs
  rw [show (8 * os.length + 5) / 6 = 8 * os.length / 6 + 1 by omega, List.range_succ, List.map_append, List.map_singleton, List.append_assoc]
  have e : six os (8 * os.length / 6) = lc % 4 * 16 := by
    unfold six
    rw [show 8 * os.length + 10 - 6 * (8 * os.length / 6) = 12 by omega, h.hc, show (2 : Int) ^ 12 = 4096 from rfl]
    omega
  rw [e]
  rfl
theorem fin4 {os out : List Int} {lc : Int} (h : Enc os out 4 lc) : Full tab os (out ++ [tab.getD (lc % 16 * 4).toNat 0, 61]) := by
  have hb := h.hb
  refine ⟨[61], .inr (.inl rfl), ?_⟩
  rw [h.ho, head_part _ _ (by omega)]
  unfold chars signs
  rw [show (8 * os.length + 5) / 6 = 8 * os.length / 6 + 1 by omega, List.range_succ, List.map_append, List.map_singleton, List.append_assoc]
  have e : six os (8 * os.length / 6) = lc % 16 * 4 := by
    unfold six
    rw [show 8 * os.length + 10 - 6 * (8 * os.length / 6) = 14 by omega, h.hc, show (2 : Int) ^ 14 = 16384 from rfl]
    omega
  rw [e]
  rfl
theorem six_in (os : List Int) (k : Nat) : 0 ≤ six os k ∧ six os k < 64 := by unfold six; omega
theorem getD_all {T : List Int} {P : Int → Bool} (h64 : T.length = 64) (hP : T.all P = true) (os : List Int) (k : Nat) : P (T.getD (six os k).toNat 0) = true := by
  have h := six_in os k
  have hl : (six os k).toNat < T.length := by omega
  rw [List.getD_eq_getElem?_getD, List.getElem?_eq_getElem hl]
  exact List.all_eq_true.1 hP _ (List.getElem_mem hl)
theorem full_all {T os ns : List Int} {P : Int → Bool} (h : Full T os ns) (h64 : T.length = 64) (hP : T.all P = true) (h61 : P 61 = true) : ∀ n ∈ ns, P n = true := by
  obtain ⟨p, hp, rfl⟩ := h
  intro n hn
  rcases List.mem_append.1 hn with h | h
  · obtain ⟨k, _, rfl⟩ := List.mem_map.1 h
    exact getD_all h64 hP os k
  · have : n = 61 := by rcases hp with rfl | rfl | rfl <;> simp at h <;> exact h
    rw [this]; exact h61
theorem full_len {T os ns : List Int} (h : Full T os ns) : ns.length ≤ signs os + 2 ∧ signs os ≤ ns.length := by
  obtain ⟨p, hp, rfl⟩ := h
  rw [List.length_append, chars, List.length_map, List.length_range]
  rcases hp with rfl | rfl | rfl <;> simp
theorem full_in {os ns : List Int} (h : Full tab os ns) : KBa.In ns := fun n hn => by
  have := full_all (P := fun n => decide (0 ≤ n ∧ n < 256)) h rfl (by decide) (by decide) n hn
  simpa using this

section
variable {prog : Program} {w : World} {A : Around} {E : Value → Shared → Prop} {s : Shared} {h₀ : Heap} {L D : Addr} {m : PySem.Str → Option Value} {news : List (Addr × Obj)} {us : List Value} {os out : List Int} {lc : Int} {t1 t2 t3 : Tok} {c : Nat} {Q : Value → Shared → Prop}
theorem make_full {vs : List Value} {ns : List Int} (F : Fr h₀ L s.heap m) (N : News h₀ L s.heap news) (hh : A.handled = none) (hm : (D, listOf vs.toArray c) ∈ news) (hi : IntsAre vs ns) (hf : Full tab os ns) (h9 : os.length ≤ 9)
    (h : ∀ b h' t' k, Fr h₀ L h' m → News h₀ L h' news → Full tab os (KBw.bInts b) → Q (.bytes b t') { s with heap := h', toks := k }) :
    wpAny (model prog w) A (call (.type "bytes") [.ref D]) Q E s := by
  have hl := full_len hf
  have hin := full_in hf
  have h8 : signs os ≤ 13 := by unfold signs; omega
  refine KBa.make_K F N hh (News.isList N hm) hi hin (by omega) fun h' t' k F' N' _ => h _ h' t' k F' N' ?_
  rw [KBa.ints_make hin]
  exact hf
theorem make_0 (F : Fr h₀ L s.heap m) (N : News h₀ L s.heap news) (hh : A.handled = none) (hm : (D, listOf us.toArray c) ∈ news) (hi : IntsAre us out) (he : Enc os out 0 lc) (h9 : os.length ≤ 9)
    (h : ∀ b h' t' k, Fr h₀ L h' m → News h₀ L h' news → Full tab os (KBw.bInts b) → Q (.bytes b t') { s with heap := h', toks := k }) :
    wpAny (model prog w) A (call (.type "bytes") [.ref D]) Q E s := make_full F N hh hm hi (fin0 he) h9 h
theorem make_2 (F : Fr h₀ L s.heap m) (N : News h₀ L s.heap news) (hh : A.handled = none) (hm : (D, listOf (((us.toArray.push (.int (tab.getD (lc % 4 * 16).toNat 0) t1)).push (.int 61 t2)).push (.int 61 t3)) c) ∈ news) (hi : IntsAre us out) (he : Enc os out 2 lc) (h9 : os.length ≤ 9)
    (h : ∀ b h' t' k, Fr h₀ L h' m → News h₀ L h' news → Full tab os (KBw.bInts b) → Q (.bytes b t') { s with heap := h', toks := k }) :
    wpAny (model prog w) A (call (.type "bytes") [.ref D]) Q E s := by
  refine make_full (c := c) (vs := us ++ [.int (tab.getD (lc % 4 * 16).toNat 0) t1, .int 61 t2, .int 61 t3]) F N hh ?_ (IntsAre.append hi (.cons _ _ (.cons _ _ (.cons _ _ .nil)))) (fin2 he) h9 h
  simpa using hm
theorem make_4 (F : Fr h₀ L s.heap m) (N : News h₀ L s.heap news) (hh : A.handled = none) (hm : (D, listOf ((us.toArray.push (.int (tab.getD (lc % 16 * 4).toNat 0) t1)).push (.int 61 t2)) c) ∈ news) (hi : IntsAre us out) (he : Enc os out 4 lc) (h9 : os.length ≤ 9)
    (h : ∀ b h' t' k, Fr h₀ L h' m → News h₀ L h' news → Full tab os (KBw.bInts b) → Q (.bytes b t') { s with heap := h', toks := k }) :
    wpAny (model prog w) A (call (.type "bytes") [.ref D]) Q E s := by
  refine make_full (c := c) (vs := us ++ [.int (tab.getD (lc % 16 * 4).toNat 0) t1, .int 61 t2]) F N hh ?_ (IntsAre.append hi (.cons _ _ (.cons _ _ .nil))) (fin4 he) h9 h
  simpa using hm

/-! the cut at the encoder's call -/
def Cut (h₀ : Heap) (L : Addr) (m : PySem.Str → Option Value) (news : List (Addr × Obj)) (os : List Int) (s : Shared) (v : Value) (s' : Shared) : Prop :=
  ∃ b t' h' k, v = .bytes b t' ∧ s' = { s with heap := h', toks := k } ∧ Fr h₀ L h' m ∧ News h₀ L h' news ∧ Full utab os (KBw.bInts b)
theorem cut_enc {M : Model} {c : Sem Value} (F0 : Fr h₀ L s.heap m) (N0 : News h₀ L s.heap news) (hos0 : KBa.In os) (h1 : wpAny M A c (Cut h₀ L m news os s) E s)
    (h2 : ∀ b t' h' k, Fr h₀ L h' m → News h₀ L h' news → Full utab os (KBw.bInts b) → Q (.bytes b t') { s with heap := h', toks := k }) : wpAny M A c Q E s :=
  wpAny_mono h1 (fun v s' ⟨b, t', h', k, hv, hs, F', N', hf⟩ => by subst hv; subst hs; exact h2 b t' h' k F' N' hf) fun _ _ x => x
theorem cut_done {p : Addr × Obj} {h' : Heap} {b : Array UInt8} {t' k : Nat} (F : Fr h₀ L h' m) (N : News h₀ L h' (p :: news)) (hf : Full utab os (KBw.bInts b)) : Cut h₀ L m news os s (.bytes b t') { s with heap := h', toks := k } :=
  ⟨b, t', h', k, rfl, rfl, F, fun q hq => N q (List.mem_cons_of_mem _ hq), hf⟩
end
end Mine
namespace Mine
open PySem.Calls PyProof.V PySem.Spec
set_option maxRecDepth 100000

theorem tr_ints {b tb : Array UInt8} (h256 : tb.size = 256) : KBw.bInts (b.map fun c => tb.getD c.toNat c) = (KBw.bInts b).map fun i => ((tb.getD i.toNat 0).toNat : Int) := by
  unfold KBw.bInts
  rw [Array.toList_map, List.map_map, List.map_map]
  refine List.map_congr_left fun c _ => ?_
  have hc : c.toNat < tb.size := by rw [h256]; exact c.toNat_lt
  simp [Array.getD, hc]
theorem tr_full {b tb : Array UInt8} {os : List Int} (h256 : tb.size = 256) (h2 : (tab.map fun i => ((tb.getD i.toNat 0).toNat : Int)) = utab) (h3 : (tb.getD 61 0).toNat = 61) (hf : Full tab os (KBw.bInts b)) :
    Full utab os (KBw.bInts (b.map fun c => tb.getD c.toNat c)) := by
  obtain ⟨p, hp, e⟩ := hf
  refine ⟨p, hp, ?_⟩
  rw [tr_ints h256, e, List.map_append]
  congr 1
  · unfold chars
    rw [List.map_map]
    refine List.map_congr_left fun k _ => ?_
    show (fun i : Int => ((tb.getD i.toNat 0).toNat : Int)) (tab.getD (six os k).toNat 0) = utab.getD (six os k).toNat 0
    have h := six_in os k
    have hl : (six os k).toNat < tab.length := by rw [show tab.length = 64 from rfl]; omega
    rw [← h2, List.getD_eq_getElem?_getD, List.getD_eq_getElem?_getD, List.getElem?_map, List.getElem?_eq_getElem hl]
    rfl
  · rcases hp with rfl | rfl | rfl
    · rfl
    · show [((tb.getD 61 0).toNat : Int)] = [61]
      rw [h3]; rfl
    · show [((tb.getD 61 0).toNat : Int), ((tb.getD 61 0).toNat : Int)] = [61, 61]
      rw [h3]; rfl
def nameOf (os : List Int) : PySem.Str := ⟨((chars utab os).map Int.toNat).toArray⟩
theorem toNat_ints (b : Array UInt8) : b.toList.map (·.toNat) = (KBw.bInts b).map Int.toNat := by
  unfold KBw.bInts
  rw [List.map_map]
  refine List.map_congr_left fun c _ => ?_
  simp
theorem takeWhile_61 {p : List Nat} (hp : ∀ c ∈ p, c = 61) : ∀ {l : List Nat}, (∀ c ∈ l, c ≠ 61) → ((p ++ l).takeWhile fun c => (#[61] : Array Nat).contains c) = p := by
  intro l hl
  induction p with
  | nil =>
    cases l with
    | nil => rfl
    | cons c r =>
      have hc := hl c (List.mem_cons_self ..)
      simp [hc]
  | cons c r ih =>
    have hc := hp c (List.mem_cons_self ..)
    subst hc
    rw [List.cons_append, List.takeWhile_cons, ih fun c h => hp c (List.mem_cons_of_mem _ h)]
    simp
theorem strip_full {b : Array UInt8} {os : List Int} (hf : Full utab os (KBw.bInts b)) : Txt.rstripChars ⟨(b.toList.map (·.toNat)).toArray⟩ (PySem.Str.ofString "=") = nameOf os := by
  obtain ⟨p, hp, e⟩ := hf
  have hl : ∀ c ∈ (chars utab os).map Int.toNat, c ≠ 61 := by
    intro c hc
    obtain ⟨i, hi, rfl⟩ := List.mem_map.1 hc
    obtain ⟨k, _, rfl⟩ := List.mem_map.1 hi
    have := getD_all (P := fun n => decide (n.toNat ≠ 61)) (T := utab) rfl (by decide) os k
    simpa using this
  have hpp : ∀ c ∈ p.map Int.toNat, c = 61 := by
    intro c hc
    rcases hp with rfl | rfl | rfl <;> simp at hc <;> omega
  rw [toNat_ints, e, List.map_append]
  unfold Txt.rstripChars
  rw [show (PySem.Str.ofString "=").cps = #[61] from by decide, PyProof.Rows.stripBy_eq]
  show Builtin.Str.strSub _ 0 (stripHi _ true _ 0) = _
  unfold stripHi
  rw [if_pos rfl, List.drop_zero]
  show Builtin.Str.strSub _ 0 (((chars utab os).map Int.toNat ++ p.map Int.toNat).toArray.size - ((((chars utab os).map Int.toNat ++ p.map Int.toNat).reverse).takeWhile _).length) = _
  rw [List.reverse_append, takeWhile_61 (fun c hc => hpp c (List.mem_reverse.1 hc)) (fun c hc => hl c (List.mem_reverse.1 hc))]
  simp [Builtin.Str.strSub, nameOf]
section
variable {prog : Program} {w : World} {A : Around} {E : Value → Shared → Prop} {s : Shared} {os : List Int} {b tb : Array UInt8} {t u : Tok} {Q : Value → Shared → Prop}
theorem full_size {T : List Int} (hf : Full T os (KBw.bInts b)) (h9 : os.length ≤ 9) (h1 : 1 ≤ os.length) : 0 < b.size ∧ b.size ≤ 16 := by
  have h := full_len hf
  rw [KBw.ints_length] at h
  have h8 : signs os ≤ 13 := by unfold signs; omega
  have h7 : 1 ≤ signs os := by unfold signs; omega
  omega
theorem tr_call (hf : Full tab os (KBw.bInts b)) (h9 : os.length ≤ 9) (h1 : 1 ≤ os.length) (h256 : tb.size = 256) (h2 : (tab.map fun i => ((tb.getD i.toNat 0).toNat : Int)) = utab) (h3 : (tb.getD 61 0).toNat = 61)
    (h : ∀ b' t' k, Full utab os (KBw.bInts b') → Q (.bytes b' t') { s with toks := k }) : wpAny (model prog w) A (call (.builtin "bytes.translate") [.bytes b t, .bytes tb u]) Q E s :=
  call_tr (by have := full_size hf h9 h1; omega) h256 fun t' k => h _ t' k (tr_full h256 h2 h3 hf)
theorem ascii_call (hf : Full utab os (KBw.bInts b)) (h9 : os.length ≤ 9) (h1 : 1 ≤ os.length) (h : ∀ x t' k, Txt.rstripChars x (PySem.Str.ofString "=") = nameOf os → x.length ≤ 16 → Q (.str x t') { s with toks := k }) :
    wpAny (model prog w) A (call (.builtin "bytes.decode") [.bytes b t, .str (PySem.Str.ofString "ascii") u]) Q E s := by
  have hz := full_size hf h9 h1
  refine call_ascii hz.1 ?_ (by omega) fun t' k => h _ t' k (strip_full hf) ?_
  · intro c hc
    have := full_all (P := fun n => decide (n < 128)) hf rfl (by decide) (by decide) (c.toNat : Int) (List.mem_map.2 ⟨c, hc, rfl⟩)
    have h' := of_decide_eq_true this
    omega
  · show ((b.toList.map (·.toNat)).toArray).size ≤ 16
    rw [List.size_toArray, List.length_map, Array.length_toList]
    exact hz.2
theorem strip_call {x : PySem.Str} (hx : Txt.rstripChars x (PySem.Str.ofString "=") = nameOf os) (h16 : x.length ≤ 16) (h : ∀ t' k, Q (.str (nameOf os) t') { s with toks := k }) :
    wpAny (model prog w) A (call (.builtin "str.rstrip") [.str x t, .str (PySem.Str.ofString "=") u]) Q E s :=
  KXw.rstripChars hx (by rw [sizeLine_eq]; omega) h
end
end Mine
namespace Mine
open PySem.Calls PyProof.V PySem.Spec
set_option maxRecDepth 100000

/-! the loop of the law's own helper: its number lies in a cell -/
theorem num_from : ∀ (l : List Int) (a : Int) (k : Nat), KBa.In l → 0 ≤ a → a < 256 ^ k → 0 ≤ l.foldl (fun a b => a * 256 + b) a ∧ l.foldl (fun a b => a * 256 + b) a < 256 ^ (k + l.length)
  | [], _, _, _, h0, h1 => ⟨h0, h1⟩
  | n :: r, a, k, h, h0, h1 => by
    have h2 := h n (List.mem_cons_self ..)
    have h3 := num_from r (a * 256 + n) (k + 1) (fun m hm => h m (List.mem_cons_of_mem _ hm)) (by omega) (by rw [Int.pow_succ]; omega)
    rw [List.foldl_cons, List.length_cons, show k + (r.length + 1) = k + 1 + r.length by omega]
    exact h3
theorem num_lt (l : List Int) (h : KBa.In l) : 0 ≤ num l ∧ num l < 256 ^ l.length := by
  have := num_from l 0 0 h (by decide) (by decide)
  rw [Nat.zero_add] at this
  exact this
theorem num_small {l : List Int} (h : KBa.In l) (h11 : l.length ≤ 11) : 0 ≤ num l ∧ num l < 2 ^ 88 := by
  have h1 := num_lt l h
  have h2 : (256 : Int) ^ l.length ≤ 256 ^ 11 := by
    have : ∀ k : Nat, k ≤ 11 → (256 : Int) ^ k ≤ 256 ^ 11 := by decide
    exact this _ h11
  refine ⟨h1.1, Int.lt_of_lt_of_le h1.2 (Int.le_trans h2 (by decide))⟩
def CellInv (x : PySem.Str) (m₀ : PySem.Str → Option Value) (pre post : List (Addr × Obj)) (c : Addr) (a : Int) (m' : PySem.Str → Option Value) (nx : List (Addr × Obj)) : Prop :=
  (∃ o' t', nx = pre ++ (c, o') :: post ∧ o'.data = .cell (some (.int a t'))) ∧ ∀ z, z ≠ x → m' z = m₀ z
section
variable {prog : Program} {w : World} {A : Around} {E : Value → Shared → Prop} {s : Shared} {env : Env} {h₀ : Heap} {x : PySem.Str} {body : List Stmt} {Q : Flow → Shared → Prop}
theorem cell_loop {pre post : List (Addr × Obj)} {l c : Addr} {oc : Obj} {vs : List Value} {ns : List Int} {nn : Nat} {m₀ : PySem.Str → Option Value} {t₀ : Tok}
    (hh : A.handled = none) (hl : (l, listOf vs.toArray nn) ∈ pre) (hi : IntsAre vs ns) (F : Fr h₀ env.locals s.heap m₀) (N : News h₀ env.locals s.heap (pre ++ (c, oc) :: post)) (hd : oc.data = .cell (some (.int 0 t₀)))
    (hin : KBa.In ns) (h11 : ns.length ≤ 11)
    (turn : ∀ a n t o ta h tk own, 0 ≤ a → a < 2 ^ 88 → 0 ≤ n → n < 256 → o.data = .cell (some (.int a ta)) → OwnOff own ((pre ++ (c, oc) :: post).map (·.1)) →
      Fr h₀ env.locals h (fun y => if y = x then some (.int n t) else m₀ y) → News h₀ env.locals h ((pre ++ (c, o) :: post) ++ own) →
      wpAny (model prog w) A (execs body env) (InvPostN h₀ env.locals (CellInv x m₀ pre post c (a * 256 + n)) own ((pre ++ (c, oc) :: post).map (·.1)) { s with heap := h, toks := tk } Q) E { s with heap := h, toks := tk })
    (done : ∀ (u : PySem.Str → Option Value) o t h tk, o.data = .cell (some (.int (num ns) t)) → Fr h₀ env.locals h (fun z => if z = x then u z else m₀ z) → News h₀ env.locals h (pre ++ (c, o) :: post) → Q .next { s with heap := h, toks := tk }) :
    wpAny (model prog w) A (pyIter (.ref l)) (fun it s₂ => LoopAtV prog w A h₀ env x body Q E it s₂) E s := by
  refine iter_invNL (fun i m nx => CellInv x m₀ pre post c (num (ns.take i)) m nx) hh (List.mem_append_left _ hl) hi F N ⟨⟨oc, t₀, rfl, by simpa [num] using hd⟩, fun _ _ => rfl⟩ ?_ ?_
  · rintro i n t m₁ news₁ h tk own hn _ hoff _ ⟨⟨o, ta, rfl, ho⟩, hm⟩ F₁ N₁
    have hmap : (fun z => if z = x then some (Value.int n t) else m₁ z) = fun z => if z = x then some (.int n t) else m₀ z := by
      funext z; by_cases h1 : z = x <;> simp only [h1, if_true, if_false]
      exact hm z h1
    rw [hmap] at F₁
    have hs : ns.take (i + 1) = ns.take i ++ [n] := by simp [List.take_add_one, hn]
    have hb := num_small (l := ns.take i) (fun k hk => hin k (List.mem_of_mem_take hk)) (by rw [List.length_take]; omega)
    have hn2 := hin n (List.mem_of_getElem? hn)
    refine wpAny_mono (turn _ n t o ta h tk own hb.1 hb.2 hn2.1 hn2.2 ho hoff F₁ N₁) (fun f s₂ p => ?_) fun _ _ e => e
    have up : InvEndN h₀ env.locals (CellInv x m₀ pre post c (num (ns.take i) * 256 + n)) own ((pre ++ (c, oc) :: post).map (·.1)) { s with heap := h, toks := tk } s₂ →
        InvEndN h₀ env.locals (fun m' nx => (l, listOf vs.toArray nn) ∈ nx ∧ CellInv x m₀ pre post c (num (ns.take (i + 1))) m' nx) own ((pre ++ (c, oc) :: post).map (·.1)) { s with heap := h, toks := tk } s₂ := by
      rintro ⟨h', tk', m', news', nx', e', F', N', hn', ho', ha, ⟨o2, t2, rfl, hd2⟩, hz⟩
      exact ⟨h', tk', m', news', _, e', F', N', hn', ho', ha, List.mem_append_left _ hl, ⟨o2, t2, rfl, by rw [hs, num_snoc]; exact hd2⟩, hz⟩
    cases f with
    | ret v => exact p
    | brk => exact p
    | next => exact up p
    | cont => exact up p
  · rintro m₁ nx h tk _ ⟨⟨o, t, rfl, ho⟩, hm⟩ F₁ N₁
    rw [List.take_length] at ho
    refine done m₁ o t h tk ho ?_ N₁
    have hmap : (fun z => if z = x then m₁ z else m₀ z) = m₁ := by
      funext z; by_cases h1 : z = x <;> simp only [h1, if_true, if_false]
      exact (hm z h1).symm
    rw [hmap]
    exact F₁
end
section
variable {h₀ : Heap} {L : Addr} {x : PySem.Str}
theorem cell_end {pre post own news' : List (Addr × Obj)} {adr : List Addr} {c : Addr} {a : Int} {m₀ m' : PySem.Str → Option Value} {s₁ : Shared} {h' : Heap} {tk : Nat} {o' : Obj} {t' : Tok}
    (F : Fr h₀ L h' m') (N : News h₀ L h' news') (hd : o'.data = .cell (some (.int a t'))) (hm : ∀ z, z ≠ x → m' z = m₀ z) (hsub : ∀ p ∈ pre ++ (c, o') :: post, p ∈ news') (hown : ∀ p ∈ own, p ∈ news') (ha : (pre ++ (c, o') :: post).map (·.1) = adr) :
    InvEndN h₀ L (CellInv x m₀ pre post c a) own adr s₁ { s₁ with heap := h', toks := tk } :=
  InvEndN.intro F N ⟨⟨o', t', rfl, hd⟩, hm⟩ ha hsub hown
end
theorem in_00 {os : List Int} (h : KBa.In os) : KBa.In (os ++ [0, 0]) := fun n hn => by
  rcases List.mem_append.1 hn with h1 | h1
  · exact h n h1
  · simp at h1; omega
theorem num_00 (os : List Int) : num (os ++ [0, 0]) = num os * 65536 := by
  rw [show os ++ [0, 0] = (os ++ [0]) ++ [0] by simp, num_snoc, num_snoc]; omega
end Mine
namespace Mine
open PySem.Calls PyProof.V PySem.Spec
set_option maxRecDepth 100000

/-! the helper's list of bools -/
def sixesOf (os : List Int) : List Bool := (List.range (signs os)).map fun k => decide (six os k = 63)
def SixEl (news : List (Addr × Obj)) (os : List Int) (k : Int) (y : Value) (news' : List (Addr × Obj)) : Prop := news' = news ∧ y = .bool (decide (six os k.toNat = 63))
theorem six_val {os : List Int} {k : Int} (h0 : 0 ≤ k) (h1 : 6 * k + 1 ≤ 8 * (os.length : Int)) :
    (((num (os ++ [0, 0])).fdiv (2 ^ (8 * (os.length : Int) + 16 - 6 * k - 6).toNat)).fmod 64 == 63) = decide (six os k.toNat = 63) := by
  have e : ((num (os ++ [0, 0])).fdiv (2 ^ (8 * (os.length : Int) + 16 - 6 * k - 6).toNat)).fmod 64 = six os k.toNat := by
    rw [num_00, Int.fmod_eq_emod_of_nonneg _ (by decide), Int.fdiv_eq_ediv_of_nonneg _ (Int.le_of_lt (kbt_pos _))]
    unfold six
    rw [show (8 * (os.length : Int) + 16 - 6 * k - 6).toNat = 8 * os.length + 10 - 6 * k.toNat by omega]
  rw [e]
  by_cases h : six os k.toNat = 63 <;> simp [h]
section
variable {prog : Program} {w : World} {A : Around} {h₀ : Heap} {L : Addr} {m : PySem.Str → Option Value} {env : Env} {elt : Expr} {x : PySem.Str} {scope : Scope} {cl : List (PySem.Str × Addr)} {s : Shared} {S : List (Addr × Obj) → Prop} {Fin : List Value → List (Addr × Obj) → Prop} {news : List (Addr × Obj)} {os : List Int}
theorem six_rest {n : Nat} {a : Int} (hos0 : KBa.In os) (ha : a = 0) (hn : n = signs os)
    (turn : ∀ k t I oI C oC D m₂ ys h tk (E' : Value → Shared → Prop), 0 ≤ k → 6 * k + 1 ≤ 8 * (os.length : Int) → LCg.NsObj oC m₂ → m₂ x = some (.int k t) → Fr h₀ L h m → News h₀ L h ((I, oI) :: (C, oC) :: (D, LCg.lst ys) :: news) → LCg.Off3 I C D news → ((@Ne Nat I C) ∧ (@Ne Nat I D) ∧ (@Ne Nat C D)) →
      wpAny (model prog w) A (eval elt (compEnvC scope cl C env)) (LCg.CompEnd h₀ L m { s with heap := h, toks := tk } I oI C oC D (LCg.lst ys) S (fun y news' => SixEl news os k y news')) E' { s with heap := h, toks := tk })
    (fin : ∀ ys, LSm.BoolsAre ys (sixesOf os) → Fin ys news) : LCg.CompRest prog w A h₀ L m env elt x scope cl s S (fun i v => ∃ t, v = .int (a + (i : Int)) t) Fin n 0 [] news := by
  have main : ∀ left done ys, done + left = n → LSm.BoolsAre ys ((List.range done).map fun k => decide (six os k = 63)) → LCg.CompRest prog w A h₀ L m env elt x scope cl s S (fun i v => ∃ t, v = .int (a + (i : Int)) t) Fin left done ys news := by
    intro left
    induction left with
    | zero =>
      intro done ys hd hb
      refine LCg.CompRest.zero (fin ys ?_)
      unfold sixesOf
      rw [← hn, ← hd]
      exact hb
    | succ left ih =>
      intro done ys hd hb
      refine LCg.CompRest.succ ?_
      rintro v I oI C oC D m₂ h tk E' ⟨t, rfl⟩ hC hx F N off ne
      have hs : signs os = (8 * os.length + 5) / 6 := rfl
      refine wpAny_mono (turn _ t I oI C oC D m₂ ys h tk E' (by omega) (by omega) hC hx F N off ne) ?_ fun _ _ e => e
      rintro y s₂ ⟨h', tk', nw, e, F', N', off', hS, rfl, rfl⟩
      refine ⟨h', tk', nw, e, F', N', off', hS, ih (done + 1) _ (by omega) ?_⟩
      rw [List.range_succ, List.map_append, show (a + (done : Int)).toNat = done by omega]
      exact kbo_app hb (.cons _ .nil)
  exact main n 0 [] (by omega) .nil
theorem six_end {I C D : Addr} {s₁ : Shared} {oI oC oD : Obj} {h' : Heap} {tk : Nat} {all : List (Addr × Obj)} {k : Int}
    (F : Fr h₀ L h' m) (N : News h₀ L h' all) (sub : ∀ p ∈ (I, oI) :: (C, oC) :: (D, oD) :: news, p ∈ all) (off : LCg.Off3 I C D news) (hS : S news) (h0 : 0 ≤ k) (h1 : 6 * k + 1 ≤ 8 * (os.length : Int)) :
    LCg.CompEnd h₀ L m s₁ I oI C oC D oD S (fun y news' => SixEl news os k y news') (.bool (((num (os ++ [0, 0])).fdiv (2 ^ (8 * (os.length : Int) + 16 - 6 * k - 6).toNat)).fmod 64 == 63)) { s₁ with heap := h', toks := tk } :=
  LCg.CompEnd.intro F N news sub off hS ⟨rfl, by rw [six_val h0 h1]⟩
end
theorem signs_toNat {os : List Int} : ((8 * (os.length : Int) + 5).fdiv 6 - 0).toNat = signs os := by
  rw [Int.fdiv_eq_ediv_of_nonneg _ (by decide)]; unfold signs; omega
section
variable {prog : Program} {w : World} {A : Around} {h₀ : Heap} {L : Addr} {m : PySem.Str → Option Value} {env : Env} {elt : Expr} {x : PySem.Str} {scope : Scope} {cl : List (PySem.Str × Addr)} {s₁ : Shared} {Fin : Shared → List Value → List (Addr × Obj) → Prop} {news : List (Addr × Obj)} {os : List Int} {r : Addr} {t u v : Tok}
theorem six_src (hh : A.handled = none) (F : Fr h₀ L s₁.heap m) (N : News h₀ L s₁.heap news) (hr : IsRange s₁.heap r 0 ((8 * (os.length : Int) + 5).fdiv 6) 1 t u v) (hos : KBa.In os) (h9 : os.length ≤ 9)
    (turn : ∀ k t I oI C oC D m₂ ys h tk (E' : Value → Shared → Prop), 0 ≤ k → 6 * k + 1 ≤ 8 * (os.length : Int) → LCg.NsObj oC m₂ → m₂ x = some (.int k t) → Fr h₀ L h m → News h₀ L h ((I, oI) :: (C, oC) :: (D, LCg.lst ys) :: news) → LCg.Off3 I C D news → ((@Ne Nat I C) ∧ (@Ne Nat I D) ∧ (@Ne Nat C D)) →
      wpAny (model prog w) A (eval elt (compEnvC scope cl C env)) (LCg.CompEnd h₀ L m { s₁ with heap := h, toks := tk } I oI C oC D (LCg.lst ys) (fun _ => True) (fun y news' => SixEl news os k y news')) E' { s₁ with heap := h, toks := tk })
    (fin : ∀ g ys, LSm.BoolsAre ys (sixesOf os) → Fin { s₁ with heap := g } ys news) : LCg.CompSrc prog w A h₀ L m env elt x scope cl Fin (.ref r) s₁ := by
  have e : (8 * (os.length : Int) + 5).fdiv 6 = (8 * (os.length : Int) + 5) / 6 := Int.fdiv_eq_ediv_of_nonneg _ (by decide)
  refine LCg.CompSrc.range hh F N hr (small_one (by omega) (by omega) (by omega) (by omega)) (rangeSize_nat _ _) ?_ fun g => six_rest hos rfl signs_toNat turn (fin g)
  rw [signs_toNat, sizeLine_eq]
  unfold signs
  omega
end
end Mine
namespace Mine
open PySem.Calls PyProof.V PySem.Spec
set_option maxRecDepth 100000

theorem name_len (os : List Int) : (nameOf os).length = signs os := by
  show ((chars utab os).map Int.toNat).toArray.size = signs os
  rw [List.size_toArray, List.length_map, chars, List.length_map, List.length_range]
theorem sixes_len (os : List Int) : (sixesOf os).length = signs os := by rw [sixesOf, List.length_map, List.length_range]
def Twin (x : PySem.Str) (bs : List Bool) : Prop := bs = x.cps.toList.map fun c => decide (c = 95)
theorem utab_95 : ∀ i : Nat, i < 64 → (decide (i = 63)) = decide ((utab.getD i 0).toNat = 95) := by decide
theorem twin_name (os : List Int) : Twin (nameOf os) (sixesOf os) := by
  unfold Twin nameOf sixesOf chars
  simp only [List.map_map]
  refine List.map_congr_left fun k _ => ?_
  have h := six_in os k
  have e := utab_95 (six os k).toNat (by omega)
  show decide (six os k = 63) = decide ((utab.getD (six os k).toNat 0).toNat = 95)
  rw [← e]
  by_cases h63 : six os k = 63
  · simp [h63]
  · have : ¬ (six os k).toNat = 63 := by omega
    simp [h63, this]
def RangeInv (x : PySem.Str) (stored : List PySem.Str) (m₀ : PySem.Str → Option Value) (news : List (Addr × Obj)) (m' : PySem.Str → Option Value) (nx : List (Addr × Obj)) : Prop :=
  nx = news ∧ ∀ z, z ≠ x → stored.contains z = false → m' z = m₀ z
section
variable {prog : Program} {w : World} {A : Around} {E : Value → Shared → Prop} {s : Shared} {env : Env} {h₀ : Heap} {x : PySem.Str} {body : List Stmt} {Q : Flow → Shared → Prop} {L : Addr}
theorem range_loop {r : Addr} {a b : Int} {t₀ u₀ v₀ : Tok} {m₀ : PySem.Str → Option Value} {news : List (Addr × Obj)} (stored : List PySem.Str)
    (hh : A.handled = none) (hr : IsRange s.heap r a b 1 t₀ u₀ v₀) (ha : 0 ≤ a) (ha' : a < 1000) (hb : 0 ≤ b) (hb' : b < 1000) (F : Fr h₀ env.locals s.heap m₀) (N : News h₀ env.locals s.heap news)
    (turn : ∀ k t (u : PySem.Str → Option Value) h tk own, a ≤ k → k < b → OwnOff own (news.map (·.1)) →
      Fr h₀ env.locals h (fun y => if y = x then some (.int k t) else if stored.contains y then u y else m₀ y) → News h₀ env.locals h (news ++ own) →
      wpAny (model prog w) A (execs body env) (InvPostN h₀ env.locals (RangeInv x stored m₀ news) own (news.map (·.1)) { s with heap := h, toks := tk } Q) E { s with heap := h, toks := tk })
    (done : ∀ (u : PySem.Str → Option Value) h tk, Fr h₀ env.locals h (fun y => if y = x then u y else if stored.contains y then u y else m₀ y) → News h₀ env.locals h news → Q .next { s with heap := h, toks := tk }) :
    wpAny (model prog w) A (pyIter (.ref r)) (fun it s₂ => LoopAtV prog w A h₀ env x body Q E it s₂) E s := by
  refine kst_range (σ := Unit) (fun _ => news) (fun _ => []) (fun _ => True) stored (fun _ _ => True) () hh hr (small_one (by omega) (by omega) (by omega) (by omega)) (rangeSize_nat _ _) F N trivial (fun _ h => nomatch h) trivial ?_ ?_
  · intro c pre k t u h tk own hk hlt hoff _ _ F' N'
    refine wpAny_mono (turn k t u h tk own (by omega) (by omega) hoff F' N') (fun f s₂ p => ?_) fun _ _ e => e
    have up : InvEndN h₀ env.locals (RangeInv x stored m₀ news) own (news.map (·.1)) { s with heap := h, toks := tk } s₂ →
        InvEndN h₀ env.locals (KstS (fun _ : Unit => news) (fun _ => []) (fun _ => True) x stored m₀ (fun _ _ => True) (pre ++ [k])) own (news.map (·.1)) { s with heap := h, toks := tk } s₂ := by
      rintro ⟨h', tk', m', news', nx', e', F', N', hn', ho', ha, hnx, hz⟩
      exact ⟨h', tk', m', news', nx', e', F', N', hn', ho', ha, (), hnx, trivial, (fun _ h => nomatch h), (fun z h1 _ h3 => hz z h1 h3), trivial⟩
    cases f with
    | ret v => exact p
    | brk => exact p
    | next => exact up p
    | cont => exact up p
  · intro c u h tk _ _ F' N'
    exact done u h tk F' N'
theorem range_end {own news news' : List (Addr × Obj)} {adr : List Addr} {stored : List PySem.Str} {m₀ m' : PySem.Str → Option Value} {s₁ : Shared} {h' : Heap} {tk : Nat}
    (F : Fr h₀ L h' m') (N : News h₀ L h' news') (hm : ∀ z, z ≠ x → stored.contains z = false → m' z = m₀ z) (hsub : ∀ p ∈ news, p ∈ news') (hown : ∀ p ∈ own, p ∈ news') (ha : news.map (·.1) = adr) :
    InvEndN h₀ L (RangeInv x stored m₀ news) own adr s₁ { s₁ with heap := h', toks := tk } :=
  InvEndN.intro F N ⟨rfl, hm⟩ ha hsub hown
end
section
variable {prog : Program} {w : World} {A : Around} {E : Value → Shared → Prop} {s : Shared} {h₀ : Heap} {L D : Addr} {news : List (Addr × Obj)} {os : List Int} {t : Tok} {Q : Value → Shared → Prop} {ys : List Value}
theorem signs_le (h9 : os.length ≤ 9) : signs os ≤ 13 := by unfold signs; omega
theorem len_name (h9 : os.length ≤ 9) (h : ∀ t' k, signs os ≤ 13 → Q (.int (signs os : Int) t') { s with toks := k }) : wpAny (model prog w) A (call (.builtin "len") [.str (nameOf os) t]) Q E s := by
  have h8 := signs_le h9
  refine len_str ?_ ?_
  · rw [name_len]; omega
  · rw [name_len]; exact h _ _ h8
theorem len_sixes (N : News h₀ L s.heap news) (hm : (D, LCg.lst ys) ∈ news) (hb : LSm.BoolsAre ys (sixesOf os)) (h9 : os.length ≤ 9) (h : ∀ t' k, Q (.int (signs os : Int) t') { s with toks := k }) : wpAny (model prog w) A (call (.builtin "len") [.ref D]) Q E s := by
  have h8 := signs_le h9
  refine kbo_len N hm hb (by rw [sixes_len]; omega) ?_
  rw [sixes_len]; exact h _ _
end
end Mine
namespace Mine
open PySem.Calls PyProof.V PySem.Spec
set_option maxRecDepth 100000

/-! lists of bools: cuts and == -/
theorem bools_drop : ∀ {vs : List Value} {bs : List Bool}, LSm.BoolsAre vs bs → ∀ n : Nat, LSm.BoolsAre (vs.drop n) (bs.drop n)
  | _, _, h, 0 => h
  | _, _, .nil, _ + 1 => .nil
  | _, _, .cons _ r, n + 1 => bools_drop r n
theorem bools_take : ∀ {vs : List Value} {bs : List Bool}, LSm.BoolsAre vs bs → ∀ n : Nat, LSm.BoolsAre (vs.take n) (bs.take n)
  | _, _, _, 0 => .nil
  | _, _, .nil, _ + 1 => .nil
  | _, _, .cons b r, n + 1 => .cons b (bools_take r n)
def pickB (lo hi : Option Int) (bs : List Bool) : List Bool := (bs.drop (kms_lo lo bs.length)).take (kms_hi hi bs.length - kms_lo lo bs.length)
theorem bools_pick {vs : List Value} {bs : List Bool} (h : LSm.BoolsAre vs bs) (lo hi : Option Int) : LSm.BoolsAre (slicePick vs.toArray lo hi none).toList (pickB lo hi bs) := by
  rw [kms_pick_eq]
  unfold kms_pick pickB
  show LSm.BoolsAre ((vs.drop (kms_lo lo vs.length)).take (kms_hi hi vs.length - kms_lo lo vs.length)) _
  rw [h.length]
  exact bools_take (bools_drop h _) _
theorem bools_carried : ∀ {vs : List Value} {bs : List Bool}, LSm.BoolsAre vs bs → CarriedAll vs (bs.map PyData.bool)
  | _, _, .nil => .nil
  | _, _, .cons b r => .cons (.bool b) (bools_carried r)
theorem bools_lay : ∀ bs : List Bool, PyData.canLayAll0 (bs.map PyData.bool) = true
  | [] => rfl
  | _ :: r => by simp [PyData.canLayAll0, PyData.canLay0, bools_lay r]
theorem bools_depth : ∀ bs : List Bool, PyData.depthAll (bs.map PyData.bool) = 0
  | [] => rfl
  | _ :: r => by simp [PyData.depthAll, PyData.depth, bools_depth r]
theorem bools_shaped (bs : List Bool) : SeqAt.shaped (.list (bs.map PyData.bool)) = true := by
  simp [SeqAt.shaped, PyData.canLay0, PyData.depth, bools_lay, bools_depth]
theorem bools_same : ∀ as bs : List Bool, PySem.Spec.sameAll (as.map PyData.bool) (bs.map PyData.bool) = decide (as = bs)
  | [], [] => by simp [PySem.Spec.sameAll]
  | [], _ :: _ => by simp [PySem.Spec.sameAll]
  | _ :: _, [] => by simp [PySem.Spec.sameAll]
  | a :: r, b :: t => by
    simp only [List.map_cons, PySem.Spec.sameAll, PySem.Spec.same, bools_same r t]
    by_cases h : a = b <;> by_cases h' : r = t <;> simp [h, h']
section
variable {prog : Program} {w : World} {A : Around} {E : Value → Shared → Prop} {s : Shared} {h₀ : Heap} {L l : Addr} {m : PySem.Str → Option Value} {news : List (Addr × Obj)} {value slice : PySem.Expr} {vs : List Value} {bs : List Bool} {vl vu : Value} {lo hi : Option Int} {Q : Value → Shared → Prop} {c : Nat}
theorem slice_bools (F : Fr h₀ L s.heap m) (N : News h₀ L s.heap news) (hm : (l, listOf vs.toArray c) ∈ news) (pl : IsPart vl lo) (pu : IsPart vu hi) (hb : LSm.BoolsAre vs bs) (hz : bs.length ≤ 1000)
    (h : ∀ D ws h', Fr h₀ L h' m → News h₀ L h' ((D, listOf (List.toArray ws) 0) :: news) → (∀ p ∈ news, p.1 < D) → LSm.BoolsAre ws (pickB lo hi bs) → (pickB lo hi bs).length ≤ 1000 → Q (.ref D) { s with heap := h' })
    (hs : subscripted slice false (.ref l) (.ref s.heap.objs.size) = operate [.ref s.heap.objs.size, .ref l] (getItem (.ref l) (.ref s.heap.objs.size))) (ht : ∀ r, letTemporaryGo value (.ref l) r = pure ()) :
    wpAny (model prog w) A (subscriptTail value slice (.ref l) (.ref s.heap.objs.size)) Q E { s with heap := s.heap.push { cls := .type "slice", data := .fields #[vl, vu, .none] } } := by
  have hle : (pickB lo hi bs).length ≤ 1000 := by
    unfold pickB; rw [List.length_take, List.length_drop]; omega
  refine kmk_slice F N (News.isList N hm) pl pu (fun D h' F' N' l1 => h D (slicePick vs.toArray lo hi none).toList h' F' ?_ l1 (bools_pick hb lo hi) hle) hs ht (by rw [List.size_toArray, hb.length, sizeLine_eq]; omega)
  rw [Array.toArray_toList]
  exact N'
theorem eq_bools {a b : Addr} {xs ys : List Value} {as bs : List Bool} (ha : s.heap.IsList a xs.toArray) (hb : s.heap.IsList b ys.toArray) (hi : LSm.BoolsAre xs as) (hj : LSm.BoolsAre ys bs) (hu : A.units + 64 < cLine) (h : Q (.bool (decide (as = bs))) s) :
    wpAny (model prog w) A (compareOp .Eq (.ref a) (.ref b)) Q E s :=
  eq_dataH_same (reads_newData ha (bools_carried hi)) (reads_newData hb (bools_carried hj)) (bools_shaped _) (bools_shaped _) hu (SeqAt.noMix_of_shape (.list .bool) rfl _ _ (list_map_has fun _ => rfl) (list_map_has fun _ => rfl))
    (by show Q (.bool (PySem.Spec.sameAll _ _)) s; rw [bools_same]; exact h)
end

/-! the part of the name and the part of the bools -/
theorem pick_run {bs : List Bool} {k j : Int} (h0 : 0 ≤ k) (h1 : k ≤ j) (h2 : j ≤ bs.length) : pickB (some k) (some j) bs = (bs.drop k.toNat).take (j - k).toNat := by
  unfold pickB
  simp only [kms_lo, kms_hi, if_neg (show ¬ k < 0 by omega), if_neg (show ¬ j < 0 by omega)]
  rw [show min k.toNat bs.length = k.toNat by omega, show min j.toNat bs.length - k.toNat = (j - k).toNat by omega]
theorem twin_len {x : PySem.Str} {ps : List Bool} (h : Twin x ps) : x.length = ps.length := by
  rw [h, List.length_map]; rfl
theorem twin_slice {x : PySem.Str} {bs : List Bool} (h : Twin x bs) {k j : Int} (h0 : 0 ≤ k) (h1 : k ≤ j) (h2 : j ≤ bs.length) : Twin (Txt.slice x (some k) (some j)) (pickB (some k) (some j) bs) := by
  have hl := twin_len h
  have e := beq_iff_eq.mp (slice_closes (x := x) (i := k) (j := j) ⟨h0, h1, by rw [← hl] at h2; exact h2⟩)
  rw [pick_run h0 h1 h2]
  unfold Twin
  rw [e, h, ← List.map_drop, ← List.map_take]
section
variable {prog : Program} {w : World} {A : Around} {E : Value → Shared → Prop} {s : Shared} {h₀ : Heap} {L : Addr} {m : PySem.Str → Option Value} {news : List (Addr × Obj)} {value slice : PySem.Expr} {os : List Int} {t ui uj : Tok} {Q : Value → Shared → Prop} {k j : Int}
theorem slice_name (F : Fr h₀ L s.heap m) (N : News h₀ L s.heap news) (h9 : os.length ≤ 9) (h0 : 0 ≤ k) (h1 : k ≤ j) (h2 : j ≤ (signs os : Int))
    (h : ∀ x h' t' tk, Twin x (pickB (some k) (some j) (sixesOf os)) → Fr h₀ L h' m → News h₀ L h' news → Q (.str x t') { s with heap := h', toks := tk })
    (hs : subscripted slice false (.str (nameOf os) t) (.ref s.heap.objs.size) = operate [.ref s.heap.objs.size, .str (nameOf os) t] (getItem (.str (nameOf os) t) (.ref s.heap.objs.size))) (ht : ∀ r, letTemporaryGo value (.str (nameOf os) t) r = pure ()) :
    wpAny (model prog w) A (subscriptTail value slice (.str (nameOf os) t) (.ref s.heap.objs.size)) Q E { s with heap := s.heap.push { cls := .type "slice", data := .fields #[.int k ui, .int j uj, .none] } } :=
  slice_strN_ss F N (fun h' t' tk F' N' => h _ h' t' tk (twin_slice (twin_name os) h0 h1 (by rw [sixes_len]; exact h2)) F' N') hs ht (by have := signs_le h9; rw [name_len, sizeLine_eq]; omega)
end

/-! a call or an expression that ends in one bool -/
def BoolCut (h₀ : Heap) (L : Addr) (m : PySem.Str → Option Value) (news : List (Addr × Obj)) (b : Bool) (s : Shared) (v : Value) (s' : Shared) : Prop :=
  ∃ h' k, v = .bool b ∧ s' = { s with heap := h', toks := k } ∧ Fr h₀ L h' m ∧ News h₀ L h' news
section
variable {M : Model} {A : Around} {E : Value → Shared → Prop} {s : Shared} {h₀ : Heap} {L : Addr} {m : PySem.Str → Option Value} {news : List (Addr × Obj)} {Q : Value → Shared → Prop}
theorem cut_bool {c : Sem Value} (b : Bool) (F0 : Fr h₀ L s.heap m) (N0 : News h₀ L s.heap news) (h1 : wpAny M A c (BoolCut h₀ L m news b s) E s)
    (h2 : ∀ h' k, Fr h₀ L h' m → News h₀ L h' news → Q (.bool b) { s with heap := h', toks := k }) : wpAny M A c Q E s :=
  wpAny_mono h1 (fun v s' ⟨h', k, hv, hs, F', N'⟩ => by subst hv; subst hs; exact h2 h' k F' N') fun _ _ x => x
theorem bool_done {all : List (Addr × Obj)} {h' : Heap} {b b' : Bool} {k : Nat} (F : Fr h₀ L h' m) (N : News h₀ L h' all) (hsub : ∀ p ∈ news, p ∈ all) (e : b' = b) : BoolCut h₀ L m news b s (.bool b') { s with heap := h', toks := k } :=
  ⟨h', k, by rw [e], rfl, F, fun p hp => N p (hsub p hp)⟩
end
/-! what the law says of a part, and what the two functions say -/
def dunB (ps : List Bool) : Bool := decide (4 < ps.length) && decide (pickB none (some 3) ps = [true, true, false]) && decide (pickB (some (-3)) none ps = [false, true, true])
def sunB (ps : List Bool) : Bool := decide (2 < ps.length) && decide (pickB none (some 2) ps = [true, false]) && decide (pickB (some (-2)) none ps = [false, true])
section
variable {M : Model} {A : Around} {E : Value → Shared → Prop} {s : Shared} {h₀ : Heap} {L : Addr} {m : PySem.Str → Option Value} {news : List (Addr × Obj)} {Q : Value → Shared → Prop} {c : Sem Value} {ws : List Value} {k j : Int} {os : List Int}
theorem cut_dun (F : Fr h₀ L s.heap m) (N : News h₀ L s.heap news) (hb0 : LSm.BoolsAre ws (pickB (some k) (some j) (sixesOf os))) (h1 : wpAny M A c (BoolCut h₀ L m news (dunB (pickB (some k) (some j) (sixesOf os))) s) E s)
    (h2 : ∀ h' k', Fr h₀ L h' m → News h₀ L h' news → Q (.bool (dunB (pickB (some k) (some j) (sixesOf os)))) { s with heap := h', toks := k' }) : wpAny M A c Q E s := cut_bool _ F N h1 h2
theorem cut_sun (F : Fr h₀ L s.heap m) (N : News h₀ L s.heap news) (hb0 : LSm.BoolsAre ws (pickB (some k) (some j) (sixesOf os))) (h1 : wpAny M A c (BoolCut h₀ L m news (sunB (pickB (some k) (some j) (sixesOf os))) s) E s)
    (h2 : ∀ h' k', Fr h₀ L h' m → News h₀ L h' news → Q (.bool (sunB (pickB (some k) (some j) (sixesOf os)))) { s with heap := h', toks := k' }) : wpAny M A c Q E s := cut_bool _ F N h1 h2
end
end Mine
namespace Mine
open PySem.Calls PyProof.V PySem.Spec
set_option maxRecDepth 100000
/-! the cut at the helper's call -/
def ListCut (h₀ : Heap) (L : Addr) (m : PySem.Str → Option Value) (news : List (Addr × Obj)) (os : List Int) (s : Shared) (v : Value) (s' : Shared) : Prop :=
  ∃ D ys h' k, v = .ref D ∧ s' = { s with heap := h', toks := k } ∧ Fr h₀ L h' m ∧ News h₀ L h' ((D, LCg.lst ys) :: news) ∧ LSm.BoolsAre ys (sixesOf os)
section
variable {M : Model} {A : Around} {E : Value → Shared → Prop} {s : Shared} {h₀ : Heap} {L : Addr} {m : PySem.Str → Option Value} {news : List (Addr × Obj)} {Q : Value → Shared → Prop} {os : List Int}
theorem cut_list {c : Sem Value} (F0 : Fr h₀ L s.heap m) (N0 : News h₀ L s.heap news) (hos0 : KBa.In os) (h1 : wpAny M A c (ListCut h₀ L m news os s) E s)
    (h2 : ∀ D ys h' k, Fr h₀ L h' m → News h₀ L h' ((D, LCg.lst ys) :: news) → LSm.BoolsAre ys (sixesOf os) → Q (.ref D) { s with heap := h', toks := k }) : wpAny M A c Q E s :=
  wpAny_mono h1 (fun v s' ⟨D, ys, h', k, hv, hs, F', N', hb⟩ => by subst hv; subst hs; exact h2 D ys h' k F' N' hb) fun _ _ x => x
theorem list_done {all : List (Addr × Obj)} {D : Addr} {ys : List Value} {h' : Heap} {k : Nat} (F : Fr h₀ L h' m) (N : News h₀ L h' all) (hb : LSm.BoolsAre ys (sixesOf os)) (hsub : ∀ p ∈ (D, LCg.lst ys) :: news, p ∈ all) : ListCut h₀ L m news os s (.ref D) { s with heap := h', toks := k } :=
  ⟨D, ys, h', k, rfl, rfl, F, fun p hp => N p (hsub p hp), hb⟩
end
section
variable {prog : Program} {w : World} {A : Around} {E : Value → Shared → Prop} {s : Shared} {h₀ : Heap} {L : Addr} {news : List (Addr × Obj)} {Q : Value → Shared → Prop}
theorem eq_boolsN {a b : Addr} {xs ys : List Value} {as bs : List Bool} {c d : Nat} (N : News h₀ L s.heap news) (ha : (a, listOf xs.toArray c) ∈ news) (hb : (b, listOf ys.toArray d) ∈ news) (hi : LSm.BoolsAre xs as) (hj : LSm.BoolsAre ys bs) (hu : A.units + 64 < cLine) (h : Q (.bool (decide (as = bs))) s) :
    wpAny (model prog w) A (compareOp .Eq (.ref a) (.ref b)) Q E s := eq_bools (News.isList N ha) (News.isList N hb) hi hj hu h
end
end Mine
namespace Mine
theorem dun_e1 {ps : List Bool} (h : ¬ (4 : Int) < (ps.length : Int)) : decide ((4 : Int) < (ps.length : Int)) = dunB ps := by
  unfold dunB; rw [decide_eq_false h, decide_eq_false (show ¬ 4 < ps.length by omega)]; rfl
theorem dun_e2 {ps : List Bool} (h : ¬ pickB none (some 3) ps = [true, true, false]) : decide (pickB none (some 3) ps = [true, true, false]) = dunB ps := by
  unfold dunB; rw [decide_eq_false h, Bool.and_false, Bool.false_and]
theorem dun_e3 {ps : List Bool} (h : (4 : Int) < (ps.length : Int)) (h2 : pickB none (some 3) ps = [true, true, false]) : decide (pickB (some (-3)) none ps = [false, true, true]) = dunB ps := by
  unfold dunB; rw [decide_eq_true h2, decide_eq_true (show 4 < ps.length by omega), Bool.true_and, Bool.true_and]
theorem sun_e1 {ps : List Bool} (h : ¬ (2 : Int) < (ps.length : Int)) : decide ((2 : Int) < (ps.length : Int)) = sunB ps := by
  unfold sunB; rw [decide_eq_false h, decide_eq_false (show ¬ 2 < ps.length by omega)]; rfl
theorem sun_e2 {ps : List Bool} (h : ¬ pickB none (some 2) ps = [true, false]) : decide (pickB none (some 2) ps = [true, false]) = sunB ps := by
  unfold sunB; rw [decide_eq_false h, Bool.and_false, Bool.false_and]
theorem sun_e3 {ps : List Bool} (h : (2 : Int) < (ps.length : Int)) (h2 : pickB none (some 2) ps = [true, false]) : decide (pickB (some (-2)) none ps = [false, true]) = sunB ps := by
  unfold sunB; rw [decide_eq_true h2, decide_eq_true (show 2 < ps.length by omega), Bool.true_and, Bool.true_and]
end Mine
namespace Mine
open PySem.Calls PyProof.V PySem.Spec
set_option maxRecDepth 100000
section
variable {prog : Program} {w : World} {A : Around} {E : Value → Shared → Prop} {s : Shared} {h₀ : Heap} {L : Addr} {m : PySem.Str → Option Value} {news : List (Addr × Obj)} {value slice : PySem.Expr} {x : PySem.Str} {ps : List Bool} {t u : Tok} {Q : Value → Shared → Prop}
theorem len_twin (hT : Twin x ps) (hL : ps.length ≤ 1000) (h : ∀ t' k, Q (.int (ps.length : Int) t') { s with toks := k }) : wpAny (model prog w) A (call (.builtin "len") [.str x t]) Q E s := by
  have e := twin_len hT
  refine len_str ?_ ?_
  · rw [e]; omega
  · rw [e]; exact h _ _
theorem head_twin {i : Int} (F : Fr h₀ L s.heap m) (N : News h₀ L s.heap news) (hT : Twin x ps) (hL : ps.length ≤ 1000)
    (h : ∀ h' t' tk, Fr h₀ L h' m → News h₀ L h' news → Q (.str (Txt.slice x none (some i)) t') { s with heap := h', toks := tk })
    (hs : subscripted slice false (.str x t) (.ref s.heap.objs.size) = operate [.ref s.heap.objs.size, .str x t] (getItem (.str x t) (.ref s.heap.objs.size))) (ht : ∀ r, letTemporaryGo value (.str x t) r = pure ()) :
    wpAny (model prog w) A (subscriptTail value slice (.str x t) (.ref s.heap.objs.size)) Q E { s with heap := s.heap.push { cls := .type "slice", data := .fields #[.none, .int i u, .none] } } :=
  slice_strN_ns F N h hs ht (by rw [twin_len hT, sizeLine_eq]; omega)
theorem tail_twin {i : Int} (F : Fr h₀ L s.heap m) (N : News h₀ L s.heap news) (hT : Twin x ps) (hL : ps.length ≤ 1000)
    (h : ∀ h' t' tk, Fr h₀ L h' m → News h₀ L h' news → Q (.str (Txt.slice x (some i) none) t') { s with heap := h', toks := tk })
    (hs : subscripted slice false (.str x t) (.ref s.heap.objs.size) = operate [.ref s.heap.objs.size, .str x t] (getItem (.str x t) (.ref s.heap.objs.size))) (ht : ∀ r, letTemporaryGo value (.str x t) r = pure ()) :
    wpAny (model prog w) A (subscriptTail value slice (.str x t) (.ref s.heap.objs.size)) Q E { s with heap := s.heap.push { cls := .type "slice", data := .fields #[.int i u, .none, .none] } } :=
  slice_strN_sn F N h hs ht (by rw [twin_len hT, sizeLine_eq]; omega)
theorem item_twin {i : Int} (hT : Twin x ps) (hL : ps.length ≤ 1000) (h0 : -(ps.length : Int) ≤ i) (h1 : i < (ps.length : Int)) (h : ∀ t' k, Q (.str (Txt.item x i) t') { s with toks := k })
    (hs : subscripted slice false (.str x t) (.int i u) = operate [.str x t, .int i u] (getItem (.str x t) (.int i u))) (ht : ∀ r, letTemporaryGo value (.str x t) r = pure ()) :
    wpAny (model prog w) A (subscriptTail value slice (.str x t) (.int i u)) Q E s :=
  KXi.item (twin_len hT) h0 h1 (by omega) (fun _ => h _ _) hs ht
end
end Mine
namespace Mine
open PySem.Calls PyProof.V PySem.Spec PySem.Builtin PySem.Builtin.Str
set_option maxRecDepth 100000

/-! the plain law: what the two functions say of a text is what the law says of its twin -/
section
variable {x : PySem.Str} {ps : List Bool}
theorem str_beq {a b : List Nat} : ((⟨a.toArray⟩ : PySem.Str) == ⟨b.toArray⟩) = decide (a = b) := by
  by_cases h : a = b
  · subst h; simp
  · rw [decide_eq_false h]
    refine beq_eq_false_iff_ne.mpr fun e => h ?_
    have := congrArg (fun s : PySem.Str => s.cps.toList) e
    simpa using this
theorem cut_head {n : Nat} (h : n ≤ x.cps.toList.length) : Txt.slice x none (some (n : Int)) = ⟨(x.cps.toList.take n).toArray⟩ := by
  have e := beq_iff_eq.mp (slice_closes_to (x := x) (j := (n : Int)) ⟨by omega, by omega⟩)
  rw [e]
  simp
theorem cut_tail {n : Nat} (h0 : 0 < n) (h : n ≤ x.cps.toList.length) : Txt.slice x (some (-(n : Int))) none = ⟨(x.cps.toList.drop (x.cps.toList.length - n)).toArray⟩ := by
  have hl : x.length = x.cps.toList.length := by simp [PySem.Str.length]
  have e1 : strSliceIndices (some (-(n : Int))) none 1 x.length = strSliceIndices (some ((x.length : Int) - n)) none 1 x.length := by
    have h1 : (1 : Int) > 0 := by decide
    simp only [strSliceIndices, h1, if_true, if_pos (show -(n : Int) < 0 by omega), if_neg (show ¬ ((x.length : Int) - n) < 0 by omega)]
    congr 3
    omega
  have e2 : Txt.slice x (some (-(n : Int))) none = Txt.slice x (some ((x.length : Int) - n)) none := by
    unfold Txt.slice
    rw [e1]
  rw [e2, slice_from_eq (b := (x.length : Int)) (by omega) (by omega) rfl]
  rw [show ((x.length : Int) - n).toNat = x.cps.toList.length - n by omega, List.take_of_length_le (by rw [List.length_drop]; omega)]
theorem item_up {n : Nat} (h : n < x.cps.toList.length) : Txt.item x (n : Int) = ⟨[x.cps.toList.getD n 0].toArray⟩ := by
  have hl : x.length = x.cps.toList.length := by simp [PySem.Str.length]
  unfold Txt.item Txt.charAt
  have e : seqIndex? (n : Int) x.length = some n := by
    unfold seqIndex?
    simp only [if_neg (show ¬ (n : Int) < 0 by omega)]
    simp
    omega
  rw [e]
  simp
theorem item_down {n : Nat} (h0 : 0 < n) (h : n ≤ x.cps.toList.length) : Txt.item x (-(n : Int)) = ⟨[x.cps.toList.getD (x.cps.toList.length - n) 0].toArray⟩ := by
  have hl : x.length = x.cps.toList.length := by simp [PySem.Str.length]
  unfold Txt.item Txt.charAt
  have e : seqIndex? (-(n : Int)) x.length = some (x.cps.toList.length - n) := by
    unfold seqIndex?
    have hj : -(n : Int) + (x.length : Int) = ((x.cps.toList.length - n : Nat) : Int) := by omega
    have hb : (decide ((0 : Int) ≤ ((x.cps.toList.length - n : Nat) : Int)) && decide (((x.cps.toList.length - n : Nat) : Int) < (x.length : Int))) = true := by
      rw [decide_eq_true (by omega), decide_eq_true (by omega)]; rfl
    simp only [if_pos (show -(n : Int) < 0 by omega), hj]
    rw [if_pos hb, Int.toNat_natCast]
  rw [e]
  simp
end
theorem take_2 {α : Type} (l : List α) (d : α) (h : 2 ≤ l.length) : l.take 2 = [l.getD 0 d, l.getD 1 d] := by
  match l, h with
  | a :: b :: r, _ => simp
theorem take_3 {α : Type} (l : List α) (d : α) (h : 3 ≤ l.length) : l.take 3 = [l.getD 0 d, l.getD 1 d, l.getD 2 d] := by
  match l, h with
  | a :: b :: c :: r, _ => simp
theorem drop_at {α : Type} (l : List α) (d : α) (i : Nat) (h : i < l.length) : l.drop i = l.getD i d :: l.drop (i + 1) := by
  rw [List.drop_eq_getElem_cons h, List.getD_eq_getElem?_getD, List.getElem?_eq_getElem h]
  rfl
theorem drop_2 {α : Type} (l : List α) (d : α) (h : 2 ≤ l.length) : l.drop (l.length - 2) = [l.getD (l.length - 2) d, l.getD (l.length - 1) d] := by
  rw [drop_at l d _ (by omega), drop_at l d (l.length - 2 + 1) (by omega), show l.length - 2 + 1 = l.length - 1 by omega, List.drop_of_length_le (by omega)]
theorem drop_3 {α : Type} (l : List α) (d : α) (h : 3 ≤ l.length) : l.drop (l.length - 3) = [l.getD (l.length - 3) d, l.getD (l.length - 2) d, l.getD (l.length - 1) d] := by
  rw [drop_at l d _ (by omega), show l.length - 3 + 1 = l.length - 2 by omega, drop_2 l d (by omega)]
theorem getD_map_95 (l : List Nat) (i : Nat) : (l.map fun c => decide (c = 95)).getD i false = decide (l.getD i 0 = 95) := by
  rw [List.getD_eq_getElem?_getD, List.getD_eq_getElem?_getD, List.getElem?_map]
  cases l[i]? with
  | none => rfl
  | some c => rfl
section
variable {x : PySem.Str} {ps : List Bool}
theorem pick_head {bs : List Bool} {n : Nat} (h : n ≤ bs.length) : pickB none (some (n : Int)) bs = bs.take n := by
  unfold pickB
  simp only [kms_lo, kms_hi, if_neg (show ¬ (n : Int) < 0 by omega)]
  rw [List.drop_zero, show min (n : Int).toNat bs.length - 0 = n by omega]
theorem pick_tail {bs : List Bool} {n : Nat} (h0 : 0 < n) (h : n ≤ bs.length) : pickB (some (-(n : Int))) none bs = bs.drop (bs.length - n) := by
  unfold pickB
  simp only [kms_lo, kms_hi, if_pos (show -(n : Int) < 0 by omega)]
  rw [show (- -(n : Int)).toNat = n by omega, List.take_of_length_le (by rw [List.length_drop]; omega)]
theorem us1 : PySem.Str.ofString "_" = ⟨[95].toArray⟩ := by decide
theorem us2 : PySem.Str.ofString "__" = ⟨[95, 95].toArray⟩ := by decide
theorem dunS_eq (hT : Twin x ps) (h4 : (4 : Int) < (ps.length : Int)) :
    ((Txt.slice x none (some 2) == Txt.slice x (some (-2)) none) && (Txt.slice x (some (-2)) none == PySem.Str.ofString "__") && (Txt.item x 2 != PySem.Str.ofString "_") && (Txt.item x (-3) != PySem.Str.ofString "_")) = dunB ps := by
  have hl : ps.length = x.cps.toList.length := by rw [hT, List.length_map]
  have hp : ps = x.cps.toList.map fun c => decide (c = 95) := hT
  have e1 : Txt.slice x none (some 2) = _ := cut_head (x := x) (n := 2) (by omega)
  have e2 : Txt.slice x (some (-2)) none = _ := cut_tail (x := x) (n := 2) (by decide) (by omega)
  have e3 : Txt.item x 2 = _ := item_up (x := x) (n := 2) (by omega)
  have e4 : Txt.item x (-3) = _ := item_down (x := x) (n := 3) (by decide) (by omega)
  have e5 : pickB none (some 3) ps = _ := pick_head (bs := ps) (n := 3) (by omega)
  have e6 : pickB (some (-3)) none ps = _ := pick_tail (bs := ps) (n := 3) (by decide) (by omega)
  unfold dunB
  rw [e1, e2, e3, e4, e5, e6, us1, us2, bne, bne, str_beq, str_beq, str_beq, str_beq, take_2 _ 0 (by omega), drop_2 _ 0 (by omega), take_3 _ false (by omega), drop_3 _ false (by omega), decide_eq_true (show 4 < ps.length by omega), hl, hp]
  simp only [getD_map_95]
  generalize x.cps.toList.getD 0 0 = c0
  generalize x.cps.toList.getD 1 0 = c1
  generalize x.cps.toList.getD 2 0 = c2
  generalize x.cps.toList.getD (x.cps.toList.length - 3) 0 = d3
  generalize x.cps.toList.getD (x.cps.toList.length - 2) 0 = d2
  generalize x.cps.toList.getD (x.cps.toList.length - 1) 0 = d1
  rw [Bool.eq_iff_iff]
  simp only [Bool.and_eq_true, Bool.not_eq_true', decide_eq_true_eq, decide_eq_false_iff_not, List.cons.injEq, and_true, true_and]
  omega
theorem sunS_eq (hT : Twin x ps) (h2 : (2 : Int) < (ps.length : Int)) :
    ((Txt.item x 0 == Txt.item x (-1)) && (Txt.item x (-1) == PySem.Str.ofString "_") && (Txt.item x 1 != PySem.Str.ofString "_") && (Txt.item x (-2) != PySem.Str.ofString "_")) = sunB ps := by
  have hl : ps.length = x.cps.toList.length := by rw [hT, List.length_map]
  have hp : ps = x.cps.toList.map fun c => decide (c = 95) := hT
  have e1 : Txt.item x 0 = _ := item_up (x := x) (n := 0) (by omega)
  have e2 : Txt.item x (-1) = _ := item_down (x := x) (n := 1) (by decide) (by omega)
  have e3 : Txt.item x 1 = _ := item_up (x := x) (n := 1) (by omega)
  have e4 : Txt.item x (-2) = _ := item_down (x := x) (n := 2) (by decide) (by omega)
  have e5 : pickB none (some 2) ps = _ := pick_head (bs := ps) (n := 2) (by omega)
  have e6 : pickB (some (-2)) none ps = _ := pick_tail (bs := ps) (n := 2) (by decide) (by omega)
  unfold sunB
  rw [e1, e2, e3, e4, e5, e6, us1, bne, bne, str_beq, str_beq, str_beq, str_beq, take_2 _ false (by omega), drop_2 _ false (by omega), decide_eq_true (show 2 < ps.length by omega), hl, hp]
  simp only [getD_map_95]
  generalize x.cps.toList.getD 0 0 = c0
  generalize x.cps.toList.getD 1 0 = c1
  generalize x.cps.toList.getD (x.cps.toList.length - 2) 0 = d2
  generalize x.cps.toList.getD (x.cps.toList.length - 1) 0 = d1
  rw [Bool.eq_iff_iff]
  simp only [Bool.and_eq_true, Bool.not_eq_true', decide_eq_true_eq, decide_eq_false_iff_not, List.cons.injEq, and_true, true_and]
  omega
theorem d2 (hT : Twin x ps) (h4 : (4 : Int) < (ps.length : Int)) (h : (Txt.slice x none (some 2) == Txt.slice x (some (-2)) none) = false) : (Txt.slice x none (some 2) == Txt.slice x (some (-2)) none) = dunB ps := by
  rw [← dunS_eq hT h4, h]; rfl
theorem d3 (hT : Twin x ps) (h4 : (4 : Int) < (ps.length : Int)) (h : (Txt.slice x (some (-2)) none == PySem.Str.ofString "__") = false) : (Txt.slice x (some (-2)) none == PySem.Str.ofString "__") = dunB ps := by
  rw [← dunS_eq hT h4, h, Bool.and_false]; rfl
theorem d4 (hT : Twin x ps) (h4 : (4 : Int) < (ps.length : Int)) (h : (Txt.item x 2 != PySem.Str.ofString "_") = false) : (Txt.item x 2 != PySem.Str.ofString "_") = dunB ps := by
  rw [← dunS_eq hT h4, h, Bool.and_false]; rfl
theorem d5 (hT : Twin x ps) (h4 : (4 : Int) < (ps.length : Int)) (ha : (Txt.slice x none (some 2) == Txt.slice x (some (-2)) none) = true) (hb : (Txt.slice x (some (-2)) none == PySem.Str.ofString "__") = true) (hc : (Txt.item x 2 != PySem.Str.ofString "_") = true) : (Txt.item x (-3) != PySem.Str.ofString "_") = dunB ps := by
  rw [← dunS_eq hT h4, ha, hb, hc]; rfl
theorem s2 (hT : Twin x ps) (h2 : (2 : Int) < (ps.length : Int)) (h : (Txt.item x 0 == Txt.item x (-1)) = false) : (Txt.item x 0 == Txt.item x (-1)) = sunB ps := by
  rw [← sunS_eq hT h2, h]; rfl
theorem s3 (hT : Twin x ps) (h2 : (2 : Int) < (ps.length : Int)) (h : (Txt.item x (-1) == PySem.Str.ofString "_") = false) : (Txt.item x (-1) == PySem.Str.ofString "_") = sunB ps := by
  rw [← sunS_eq hT h2, h, Bool.and_false]; rfl
theorem s4 (hT : Twin x ps) (h2 : (2 : Int) < (ps.length : Int)) (h : (Txt.item x 1 != PySem.Str.ofString "_") = false) : (Txt.item x 1 != PySem.Str.ofString "_") = sunB ps := by
  rw [← sunS_eq hT h2, h, Bool.and_false]; rfl
theorem s5 (hT : Twin x ps) (h2 : (2 : Int) < (ps.length : Int)) (ha : (Txt.item x 0 == Txt.item x (-1)) = true) (hb : (Txt.item x (-1) == PySem.Str.ofString "_") = true) (hc : (Txt.item x 1 != PySem.Str.ofString "_") = true) : (Txt.item x (-2) != PySem.Str.ofString "_") = sunB ps := by
  rw [← sunS_eq hT h2, ha, hb, hc]; rfl
end
end Mine
open PySem.Calls
local macro_rules | `(tactic| walk_at "call type:bytes") => `(tactic| (k_here; (with_reducible show wpAny _ _ (call (Value.type "bytes") [Value.ref _]) _ _ _); k_dflt (refine' Mine.make_os ?kbaF ?kbaN ?kbah ?kbal ?kbai ?_; (case kbaF => k_asm); (case kbaN => k_asm); (case kbah => rfl); (case kbal => kba_isList); (case kbai => assumption)); (rename IntsAre _ (List.map _ _ ++ _) => oldI); clear oldI; intro os _ _ _ hos6 hos9 hosIn hosI F' N'))
local macro_rules | `(tactic| walk_at "call type:bytes") => `(tactic| (k_here; (with_reducible show wpAny _ _ (call (Value.type "bytes") [Value.ref _]) _ _ _); k_dflt (first | (refine' Mine.make_0 ?kbaF ?kbaN ?kbah ?kbam ?kbai ?kbae ?kba9 ?_; (case kbae => assumption)) | (refine' Mine.make_2 ?kbaF ?kbaN ?kbah ?kbam ?kbai ?kbae ?kba9 ?_; (case kbae => assumption)) | (refine' Mine.make_4 ?kbaF ?kbaN ?kbah ?kbam ?kbai ?kbae ?kba9 ?_; (case kbae => assumption))); k_dflt ((case kbaF => k_asm); (case kbaN => k_asm); (case kbah => rfl); (case kbam => k_mem); (case kbai => assumption); (case kba9 => assumption)); intro _ _ _ _ F' N' hFull))
local macro_rules | `(tactic| walk_at "call type:type") => `(tactic| ((with_reducible show wpAny _ _ (call _ [Value.bytes _ _]) _ _ _); refine call_type_of (Tx := "bytes") (typeIs_bytes _ _ _) (by decide +kernel) ?_))
local macro_rules | `(tactic| walk_at "binaryOp LShift int int") => `(tactic| (first | (refine Mine.shl_to 256 (by decide) (by decide) (by omega) (by decide) ?_) | (refine Mine.shl_to 16 (by decide) (by decide) (by omega) (by decide) ?_) | (refine Mine.shl_to 4 (by decide) (by decide) (by omega) (by decide) ?_)); intro _ _; (try dsimp only))
local macro_rules | `(tactic| walk_at "binaryOp RShift int int") => `(tactic| (first | (refine Mine.shr_to 4 (by decide) (by decide) (by decide) ?_) | (refine Mine.shr_to 16 (by decide) (by decide) (by decide) ?_) | (refine Mine.shr_to 64 (by decide) (by decide) (by decide) ?_) | (refine Mine.shr_to 1 (by decide) (by decide) (by decide) ?_)); intro _ _; (try dsimp only))
local macro_rules | `(tactic| walk_at "binaryOp BitAnd int int") => `(tactic| (first | (with_reducible refine Mine.and_63 ?_; intro _ _ _ _) | (with_reducible refine Mine.and_3 ?_; intro _ _ _ _) | (with_reducible refine Mine.and_15 ?_; intro _ _ _ _) | (with_reducible refine Mine.and_65535 ?_; intro _ _)))
local macro_rules | `(tactic| walk_at "binaryOp BitOr int int") => `(tactic| ((with_reducible refine Mine.or_8 ?ho1 ?ho2 ?_); (case ho1 => assumption); (case ho2 => assumption); intro _ _; (try dsimp only)))
local macro_rules | `(tactic| walk_at "subscriptTail") => `(tactic| (k_here; (with_reducible refine Mine.tab_at ?ht1 ?ht2 ?_ ?ht3 ?ht4); (case ht1 => omega); (case ht2 => omega); (case ht3 => with_unfolding_all rfl); (case ht4 => (intro _; with_unfolding_all rfl)); intro _ _; (try dsimp only)))
local macro_rules | `(tactic| walk_at "getMethod bytes") => `(tactic| (k_here; (with_reducible refine Mine.method_tr ?_)))
local macro_rules | `(tactic| walk_at "call builtin:bytes.translate") => `(tactic| (k_here; (refine Mine.tr_call (by assumption) (by assumption) (by omega) (by rfl) (by decide) (by decide) ?_); intro _ _ _ hFull; (try dsimp only)))
local macro_rules | `(tactic| walk_at "call builtin:bytes.decode") => `(tactic| (k_here; (refine Mine.ascii_call (by assumption) (by assumption) (by omega) ?_); intro _ _ _ hStrip hSixteen; (try dsimp only)))
local macro_rules | `(tactic| walk_at "call builtin:str.rstrip") => `(tactic| (k_here; (refine Mine.strip_call (by assumption) (by assumption) ?_); intro _ _; (try dsimp only)))
local macro_rules | `(tactic| walk_at "Cut") => `(tactic| exact Mine.cut_done (by assumption) (by assumption) (by assumption))
local macro_rules | `(tactic| walk_at "exec For") => `(tactic| (k_here; (with_reducible show wpAny _ _ (exec (Stmt.For (Expr.Name _ _) (Expr.BinOp _ _ _ _) _ [] _) _) _ _ _); (rename Fr _ _ _ _ => lF'); (with_unfolding_all refine' For_invVF lF' ?k1 ?k2 ?_; (case k1 => exact rfl); (case k2 => exact rfl); k_whole)))
local macro_rules | `(tactic| walk_at "pyIter ref") => `(tactic| (k_here; (with_reducible show wpAny _ _ (pyIter (Value.ref _)) (fun it s₂ => LoopAtV _ _ _ _ _ _ _ _ _ it s₂) _ _); (with_unfolding_all refine' Mine.cell_loop (pre := [_, _, _]) ?ceh ?cel ?cei ?ceF ?ceN ?ced ?ceI ?ce11 ?_ ?_); k_dflt ((case ceh => rfl); (case ceF => k_asm); (case ceN => with_unfolding_all assumption); (case cel => k_mem); (case cei => assumption); (case ced => assumption); (case ceI => exact Mine.in_00 (by assumption)); (case ce11 => (simp only [List.length_append, List.length_cons, List.length_nil]; omega))); (rotate_left 1); (intro _ _ _ _ _ hNum F' N'; (simp only [List.nil_append, List.cons_append] at N')); (rotate_left 1); (intro _ _ _ _ _ _ _ _ _ _ _ _ hNum hOff F' N'; (simp only [List.nil_append, List.cons_append] at N'))))
local macro_rules | `(tactic| walk_at "InvEndN") => `(tactic| (k_here; (with_reducible show InvEndN _ _ (Mine.CellInv _ _ _ _ _ _) _ _ _ _); k_dflt (refine' Mine.cell_end ?ceF ?ceN ?ced ?cem ?ces ?ceo ?cea; (case ceF => k_asm); (case ceN => k_asm); (case ced => assumption); (case cem => kba_same); (case ces => kcf_all); (case ceo => kcf_all); (case cea => rfl))))
local macro_rules | `(tactic| walk_at "CompSrc") => `(tactic| (k_here; (with_reducible show LCg.CompSrc _ _ _ _ _ _ _ (Expr.Compare _ _ _ _) _ _ _ _ _ _); k_dflt ((refine' Mine.six_src ?sih ?siF ?siN ?siR ?siI ?si9 (fun k' t' I' oI' C' oC' D' m' ys' h' tk' E' hlo' hhi' hC' hx' F' N' off' ne' => ?_) (fun g' ys hBools => ?_)); (case sih => rfl); (case siF => k_asm); (case siN => k_asm); (case siR => assumption); (case siI => assumption); (case si9 => assumption); (all_goals (try (simp only [LCg.Off3, and_true] at off'))); kcf_last)))
local macro_rules | `(tactic| walk_at "CompEnd") => `(tactic| (k_here; k_dflt (refine' Mine.six_end ?seF ?seN ?ses ?seo ?seS ?se0 ?se1; (case seF => k_asm); (case seN => k_asm); (case ses => kcf_all); (case seo => (first | assumption | (simp only [LCg.Off3, and_true]; assumption))); (case seS => trivial); (case se0 => assumption); (case se1 => assumption))))
local macro_rules | `(tactic| walk_at "call builtin:len") => `(tactic| (k_here; (with_reducible show wpAny _ _ (call (Value.builtin "len") [Value.str (Mine.nameOf _) _]) _ _ _); (refine Mine.len_name (by assumption) ?_); intro _ _ hSigns; (try dsimp only)))
local macro_rules | `(tactic| walk_at "call builtin:len") => `(tactic| (k_here; (with_reducible show wpAny _ _ (call (Value.builtin "len") [Value.ref _]) _ _ _); k_dflt (refine' Mine.len_sixes ?lsN ?lsm ?lsb ?ls9 ?_; (case lsN => k_asm); (case lsb => assumption); (case lsm => k_mem); (case ls9 => assumption)); intro _ _; (try dsimp only)))
local macro_rules | `(tactic| walk_at "exec For") => `(tactic| (k_here; (with_reducible show wpAny _ _ (exec (Stmt.For (Expr.Name _ _) (Expr.Call _ _ _ _) _ [] _) _) _ _ _); (rename Fr _ _ _ _ => lF'); (with_unfolding_all refine' For_invVF lF' ?k1 ?k2 ?_; (case k1 => exact rfl); (case k2 => exact rfl); k_whole)))
local macro_rules | `(tactic| walk_at "exec For Name Call cons nil") => `(tactic| (k_here; (with_reducible show wpAny _ _ (exec (Stmt.For (Expr.Name _ _) (Expr.Call _ _ _ _) _ [] _) _) _ _ _); (rename Fr _ _ _ _ => lF'); (with_unfolding_all refine' For_invVF lF' ?k1 ?k2 ?_; (case k1 => exact rfl); (case k2 => exact rfl); k_whole)))
local macro_rules | `(tactic| walk_at "pyIter ref") => `(tactic| (k_here; (first | ((with_reducible show wpAny _ _ (pyIter (Value.ref _)) (fun it s₂ => LoopAtV _ _ _ _ _ (PySem.Str.ofString "start") _ _ _ it s₂) _ _); (with_unfolding_all refine' Mine.range_loop [PySem.Str.ofString "stop", PySem.Str.ofString "part", PySem.Str.ofString "dunder", PySem.Str.ofString "sunder"] ?rlh ?rlr ?rla ?rlb ?rlc ?rld ?rlF ?rlN (fun k' t' u' h' tk' own' hlo' hhi' hoff' F' N' => ?_) (fun u' h' tk' F' N' => ?_))) | ((with_reducible show wpAny _ _ (pyIter (Value.ref _)) (fun it s₂ => LoopAtV _ _ _ _ _ (PySem.Str.ofString "stop") _ _ _ it s₂) _ _); (with_unfolding_all refine' Mine.range_loop [PySem.Str.ofString "part", PySem.Str.ofString "dunder", PySem.Str.ofString "sunder"] ?rlh ?rlr ?rla ?rlb ?rlc ?rld ?rlF ?rlN (fun k' t' u' h' tk' own' hlo' hhi' hoff' F' N' => ?_) (fun u' h' tk' F' N' => ?_)))); k_dflt ((case rlh => rfl); (case rlr => assumption); (case rla => omega); (case rlb => omega); (case rlc => omega); (case rld => omega); (case rlF => k_asm); (case rlN => k_asm)); (all_goals (try simp only [List.nil_append, List.cons_append, List.append_assoc] at N')); kcf_last))
local macro_rules | `(tactic| walk_at "InvEndN") => `(tactic| (k_here; (with_reducible show InvEndN _ _ (Mine.RangeInv _ _ _ _) _ _ _ _); k_dflt (refine' Mine.range_end ?ceF ?ceN ?cem ?ces ?ceo ?cea; (case ceF => k_asm); (case ceN => k_asm); (case cem => (intro z h1 h3; (simp only [List.contains_cons, List.contains_nil, Bool.or_false, Bool.or_eq_false_iff, beq_eq_false_iff_ne, ne_eq] at h3); (simp [h1, h3]; done))); (case ces => kcf_all); (case ceo => kcf_all); (case cea => rfl))))
local macro_rules | `(tactic| walk_at "subscriptTail Name Slice ref ref") => `(tactic| (k_here; (with_reducible show wpAny _ _ (subscriptTail _ (PySem.Expr.Slice _ _ none _) (Value.ref _) (Value.ref _)) _ _ _); k_dflt (refine' Mine.slice_bools ?F ?N ?m ?p ?q ?b ?z ?_ ?s ?t; (case F => k_asm); (case N => k_asm); (case m => k_memK); (case b => assumption); (case p => kmk_part); (case q => kmk_part); (case s => with_unfolding_all rfl); (case t => kmk_pure); (case z => first | assumption | (rw [Mine.sixes_len]; omega))); intro D' ws' h' F' N' l1 hBs hLe; (try k_lt l1); (try k_sweep)))
local macro_rules | `(tactic| walk_at "eval BoolOp") => `(tactic| (k_here; (with_reducible show wpAny _ _ (eval (Expr.BoolOp _ (Expr.Compare _ _ [Expr.Constant (Const.int 4) _ _] _ :: _) _) _) _ _ _); (fail_if_success (with_reducible show wpAny _ _ _ (Mine.BoolCut _ _ _ _ _ _) _ _)); (refine' Mine.cut_dun (by k_asm) (by k_asm) (by assumption) ?_ ?_); (rotate_left 1); (intro _ _ F' N'); (rotate_left 1)))
local macro_rules | `(tactic| walk_at "eval BoolOp") => `(tactic| (k_here; (with_reducible show wpAny _ _ (eval (Expr.BoolOp _ (Expr.Compare _ _ [Expr.Constant (Const.int 2) _ _] _ :: _) _) _) _ _ _); (fail_if_success (with_reducible show wpAny _ _ _ (Mine.BoolCut _ _ _ _ _ _) _ _)); (refine' Mine.cut_sun (by k_asm) (by k_asm) (by assumption) ?_ ?_); (rotate_left 1); (intro _ _ F' N'); (rotate_left 1)))
local macro_rules | `(tactic| walk_at "compareOp Eq ref ref") => `(tactic| (k_here; (with_reducible show wpAny _ _ (compareOp CmpOp.Eq (Value.ref _) (Value.ref _)) _ _ _); k_dflt ((refine' Mine.eq_boolsN ?eN ?ea ?eb ?ei ?ej ?eu ?_); (case eN => k_asm); (case ea => k_memK); (case eb => k_memK); (case ei => assumption); (case ej => (first | exact LSm.BoolsAre.cons _ (LSm.BoolsAre.cons _ (LSm.BoolsAre.cons _ LSm.BoolsAre.nil)) | exact LSm.BoolsAre.cons _ (LSm.BoolsAre.cons _ LSm.BoolsAre.nil))); (case eu => ke_room))))
local macro_rules | `(tactic| walk_at "subscriptTail Name Slice str ref") => `(tactic| (k_here; (with_reducible show wpAny _ _ (subscriptTail _ (Expr.Slice (some _) (some _) none _) (Value.str (Mine.nameOf _) _) (Value.ref _)) _ _ _); (with_reducible rename Fr _ _ _ _ => F'); (with_reducible rename News _ _ _ _ => N'); k_dflt ((refine' Mine.slice_name (s := ⟨_, _, _, _, _⟩) F' N' ?sn9 ?sn0 ?sn1 ?sn2 ?_ ?sns ?snt); (case sn9 => assumption); (case sn0 => omega); (case sn1 => omega); (case sn2 => omega); (case sns => with_unfolding_all rfl); (case snt => (intro _; with_unfolding_all rfl))); intro _ _ _ _ hTwin F' N'; (try dsimp only)))
local macro_rules | `(tactic| walk_at "binaryOp Pow int int") => `(tactic| (k_here; (with_reducible refine pow_int_small ?pw1 ?pw2 ?pw3 ?_); (case pw1 => omega); (case pw2 => omega); (case pw3 => decide)))
local macro_rules | `(tactic| walk_at "binaryOp FloorDiv int int") => `(tactic| (k_here; (with_reducible show wpAny _ _ (binaryOp Operator.FloorDiv (Value.int _ _) (Value.int (2 ^ _) _)) _ _ _); (with_reducible refine floordiv_int ?fd1 ?_ (Or.inl (PyProof.noPylong_of_log2 ?fd2))); (case fd1 => exact Int.ne_of_gt (kbt_pos _)); (case fd2 => exact kbt_py (by omega))))
local macro_rules | `(tactic| walk_at "BoolCut") => `(tactic| (k_here; k_dflt ((refine' Mine.bool_done ?bdF ?bdN ?bdS ?bdE); (case bdF => k_asm); (case bdN => k_asm); (case bdS => (first | exact fun _ hp => hp | exact fun _ hp => List.Mem.tail _ hp | exact fun _ hp => List.Mem.tail _ (List.Mem.tail _ hp) | exact fun _ hp => List.Mem.tail _ (List.Mem.tail _ (List.Mem.tail _ hp)) | exact fun _ hp => List.Mem.tail _ (List.Mem.tail _ (List.Mem.tail _ (List.Mem.tail _ hp))))); (case bdE => (with_reducible first | exact Mine.dun_e1 (by assumption) | exact Mine.dun_e2 (by assumption) | exact Mine.dun_e3 (by assumption) (by assumption) | exact Mine.sun_e1 (by assumption) | exact Mine.sun_e2 (by assumption) | exact Mine.sun_e3 (by assumption) (by assumption) | exact Mine.d2 (by assumption) (by assumption) (by assumption) | exact Mine.d3 (by assumption) (by assumption) (by assumption) | exact Mine.d4 (by assumption) (by assumption) (by assumption) | exact Mine.d5 (by assumption) (by assumption) (by assumption) (by assumption) (by assumption) | exact Mine.s2 (by assumption) (by assumption) (by assumption) | exact Mine.s3 (by assumption) (by assumption) (by assumption) | exact Mine.s4 (by assumption) (by assumption) (by assumption) | exact Mine.s5 (by assumption) (by assumption) (by assumption) (by assumption) (by assumption))))))
local macro_rules | `(tactic| walk_at "call builtin:len") => `(tactic| (k_here; (with_reducible show wpAny _ _ (call (Value.builtin "len") [Value.str _ _]) _ _ _); (refine Mine.len_twin (by with_reducible assumption) (by with_reducible assumption) ?_); intro _ _; (try dsimp only)))
local macro_rules | `(tactic| walk_at "subscriptTail Name Slice str ref") => `(tactic| (k_here; (with_reducible show wpAny _ _ (subscriptTail _ (Expr.Slice none (some _) none _) (Value.str _ _) (Value.ref _)) _ _ _); (with_reducible rename Fr _ _ _ _ => F'); (with_reducible rename News _ _ _ _ => N'); k_dflt ((refine' Mine.head_twin (s := ⟨_, _, _, _, _⟩) F' N' (by with_reducible assumption) (by with_reducible assumption) ?_ (by with_unfolding_all rfl) (by intro _; with_unfolding_all rfl))); intro _ _ _ F' N'; (try dsimp only)))
local macro_rules | `(tactic| walk_at "subscriptTail Name Slice str ref") => `(tactic| (k_here; (with_reducible show wpAny _ _ (subscriptTail _ (Expr.Slice (some _) none none _) (Value.str _ _) (Value.ref _)) _ _ _); (with_reducible rename Fr _ _ _ _ => F'); (with_reducible rename News _ _ _ _ => N'); k_dflt ((refine' Mine.tail_twin (s := ⟨_, _, _, _, _⟩) F' N' (by with_reducible assumption) (by with_reducible assumption) ?_ (by with_unfolding_all rfl) (by intro _; with_unfolding_all rfl))); intro _ _ _ F' N'; (try dsimp only)))
local macro_rules | `(tactic| walk_at "subscriptTail Name Constant str int") => `(tactic| (k_here; (with_reducible show wpAny _ _ (subscriptTail _ _ (Value.str _ _) (Value.int _ _)) _ _ _); k_dflt ((refine' Mine.item_twin (by with_reducible assumption) (by with_reducible assumption) (by omega) (by omega) ?_ (by with_unfolding_all rfl) (by intro _; with_unfolding_all rfl))); intro _ _; (try dsimp only)))
local macro_rules | `(tactic| walk_at "subscriptTail Name UnaryOp str int") => `(tactic| (k_here; (with_reducible show wpAny _ _ (subscriptTail _ _ (Value.str _ _) (Value.int _ _)) _ _ _); k_dflt ((refine' Mine.item_twin (by with_reducible assumption) (by with_reducible assumption) (by omega) (by omega) ?_ (by with_unfolding_all rfl) (by intro _; with_unfolding_all rfl))); intro _ _; (try dsimp only)))
local macro_rules | `(tactic| walk_at "subscriptTail") => `(tactic| (k_here; (with_reducible show wpAny _ _ (subscriptTail _ _ (Value.str _ _) (Value.int _ _)) _ _ _); k_dflt ((refine' Mine.item_twin (by with_reducible assumption) (by with_reducible assumption) (by omega) (by omega) ?_ (by with_unfolding_all rfl) (by intro _; with_unfolding_all rfl))); intro _ _; (try dsimp only)))
local macro_rules | `(tactic| walk_at "call ref") => `(tactic| (k_here; (with_reducible show wpAny _ _ (call (Value.ref _) [Value.bytes _ _]) (fun ov s₁ => wpAny _ _ (getMethod ov (PySem.Str.ofString "decode") _) _ _ _) _ _); (refine' Mine.cut_enc (by k_asm) (by k_asm) (by assumption) ?_ ?_); (rotate_left 1); (intro _ _ _ _ F' N' hFull); (rotate_left 1)))
local macro_rules | `(tactic| walk_at "call ref") => `(tactic| (k_here; (with_reducible show wpAny _ _ (call (Value.ref _) [Value.ref _]) _ _ _); (fail_if_success (with_reducible show wpAny _ _ _ (Mine.ListCut _ _ _ _ _ _) _ _)); (refine' Mine.cut_list (by k_asm) (by k_asm) (by assumption) ?_ ?_); (rotate_left 1); (intro _ _ _ _ F' N' hBools); (rotate_left 1)))
local macro_rules | `(tactic| walk_at "ListCut") => `(tactic| (k_here; k_dflt (refine' Mine.list_done (by k_asm) (by k_asm) (by assumption) (by kcf_all))))
set_option maxRecDepth 100000 in
set_option maxHeartbeats 16000000 in
theorem PySem.Challenge.cw_pd0091_01_holds : PySem.Challenge.rw_pd0091_01.Holds := by
  k_with "pyIter bytes" => (k_state (fun pre out lb lc => (0 ≤ lc ∧ lc < 65536) ∧ out.length ≤ 2 * pre.length ∧ (lb = 0 ∨ lb = 2 ∨ lb = 4) ∧ Mine.Enc pre out lb lc) "out" "leftbits" "leftchar"); (all_goals ((rename (_ = 0 ∨ _ = 2 ∨ _ = 4) => hlb); rcases hlb with rfl | rfl | rfl))
  k_with "state" => first | exact Mine.enc_start | exact Mine.enc_s0 (by assumption) (by assumption) (by assumption) (by assumption) | exact Mine.enc_s2 (by assumption) (by assumption) (by assumption) (by assumption) | exact Mine.enc_s4 (by assumption) (by assumption) (by assumption) (by assumption)
  open_k
