import Derived.Test.Qxb6627456aBuild
namespace Go.Proofs.Qxb6627456a
open Go.RowKit

/-! ### Lists of cells, counts: no Go in sight -/
def flat (S F M : Nat → ByteArray) : Nat → List Value
  | 0 => []
  | n + 1 => flat S F M n ++ [.string (S n), .string (F n), .string (M n)]

theorem flat_length (S F M : Nat → ByteArray) (n : Nat) : (flat S F M n).length = n * 3 := by
  induction n with
  | zero => rfl
  | succ n ih => simp [flat, ih]; omega

theorem filled_flat (S F M : Nat → ByteArray) (n : Nat) : Filled (flat S F M n) n S F M := by
  induction n with
  | zero => exact filled_zero _ _ _ _
  | succ n ih =>
    intro j hj
    have hl := flat_length S F M n
    by_cases h : j < n
    · obtain ⟨p0, p1, p2⟩ := ih j h
      refine ⟨?_, ?_, ?_⟩
      · rw [flat, List.getElem?_append_left (by omega)]; exact p0
      · rw [flat, List.getElem?_append_left (by omega)]; exact p1
      · rw [flat, List.getElem?_append_left (by omega)]; exact p2
    · obtain rfl : j = n := by omega
      refine ⟨?_, ?_, ?_⟩
      · rw [flat, List.getElem?_append_right (by omega), hl]; simp
      · rw [flat, List.getElem?_append_right (by omega), hl, show j * 3 + 1 - j * 3 = 1 by omega]; rfl
      · rw [flat, List.getElem?_append_right (by omega), hl, show j * 3 + 2 - j * 3 = 2 by omega]; rfl

/-- f put in at place i. -/
def ins (S : Nat → ByteArray) (i : Nat) (f : ByteArray) : Nat → ByteArray := fun k => if k < i then S k else if k = i then f else S (k - 1)
theorem ins_lt (S : Nat → ByteArray) (f : ByteArray) {i k : Nat} (h : k < i) : ins S i f k = S k := by simp [ins, h]
theorem ins_at (S : Nat → ByteArray) (i : Nat) (f : ByteArray) : ins S i f i = f := by simp [ins]
theorem ins_gt (S : Nat → ByteArray) (i k : Nat) (f : ByteArray) : ins S i f (i + 1 + k) = S (i + k) := by
  unfold ins
  rw [if_neg (by omega), if_neg (by omega)]
  congr 1
  omega

def one (a b : ByteArray) : Nat := if a.toList == b.toList then 1 else 0
theorem cnt_succ (S : Nat → ByteArray) (s : ByteArray) (n : Nat) : cnt S s (n + 1) = cnt S s n + one (S n) s := rfl
theorem cnt_congr {S T : Nat → ByteArray} (s : ByteArray) {n : Nat} (h : ∀ k, k < n → S k = T k) : cnt S s n = cnt T s n := by
  induction n with
  | zero => rfl
  | succ n ih => rw [cnt_succ, cnt_succ, ih (fun k hk => h k (by omega)), h n (by omega)]
theorem cnt_split (S : Nat → ByteArray) (s : ByteArray) (i m : Nat) : cnt S s (i + m) = cnt S s i + cnt (fun k => S (i + k)) s m := by
  induction m with
  | zero => simp [cnt]
  | succ m ih => rw [← Nat.add_assoc, cnt_succ, ih, cnt_succ]; omega
theorem cnt_ins (S : Nat → ByteArray) (i m : Nat) (f s : ByteArray) : cnt (ins S i f) s (i + m + 1) = cnt S s i + cnt (fun k => S (i + k)) s m + one f s := by
  rw [show i + m + 1 = (i + 1) + m by omega, cnt_split, cnt_succ, ins_at, cnt_congr (T := S) s (fun k hk => ins_lt S f hk), cnt_congr (S := fun k => ins S i f (i + 1 + k)) (T := fun k => S (i + k)) s (fun k _ => ins_gt S i k f)]
  omega
theorem one_self (a : ByteArray) : one a a = 1 := by simp [one]

/-! ### A row of records over the worlds that follow -/
theorem Row3.later {w w' : World} {a : Option Addr} {n : Nat} {S F M : Nat → ByteArray} (h : Row3 w a n S F M) (hb : Below w.heap.size w w') : Row3 w' a n S F M := by
  rcases h with h | ⟨b, off, rfl, h⟩
  · exact .inl h
  · exact .inr ⟨b, off, rfl, fun k hk => ⟨cell_later hb (h k hk).1, cell_later hb (h k hk).2.1, cell_later hb (h k hk).2.2⟩⟩
theorem Row3.take {w : World} {a : Option Addr} {n m : Nat} {S F M : Nat → ByteArray} (h : Row3 w a n S F M) (hm : m ≤ n) : Row3 w a m S F M := by
  rcases h with h | ⟨b, off, rfl, h⟩
  · exact .inl (by omega)
  · exact .inr ⟨b, off, rfl, fun k hk => h k (by omega)⟩
theorem Row3.none {w : World} {a : Option Addr} {n : Nat} {S F M : Nat → ByteArray} (h : n = 0) : Row3 w a n S F M := .inl h
theorem Row3.drop {w : World} {a : Option Addr} {n m : Nat} {S F M : Nat → ByteArray} (h : Row3 w a n S F M) (hm : m ≤ n) :
    Row3 w (Option.map (fun x => x.add (m * 3)) a) (n - m) (fun k => S (m + k)) (fun k => F (m + k)) (fun k => M (m + k)) := by
  rcases h with h | ⟨b, off, rfl, h⟩
  · exact .inl (by omega)
  · refine .inr ⟨b, off + m * 3, by simp [Addr.add_lit], fun k hk => ?_⟩
    have := h (m + k) (by omega)
    rw [show off + (m + k) * 3 = off + m * 3 + k * 3 by omega] at this
    exact this
theorem Try.elem22 : Try.prog.elem 22 = 24 := by kernel_rfl
theorem Try.size24 : (Try.prog.info? 24).map (fun i => i.size) = some 3 := by kernel_rfl
theorem slice_from (a : Option Addr) (n c m : Nat) (S F M : Nat → ByteArray) (hm : m ≤ n) (hc : n ≤ c) : ∃ ao,
    (∀ wx : World, (Instr.slice 22 (.slice a n c) (some (.int .i64 m)) Option.none Option.none).run Try.prog wx = .ok (.slice ao (n - m) (c - m)) wx) ∧
    ∀ w, Row3 w a n S F M → Row3 w ao (n - m) (fun k => S (m + k)) (fun k => F (m + k)) (fun k => M (m + k)) := by
  refine ⟨if c = m then a else a.map (·.add (m * 3)), fun wx => ?_, fun w h => ?_⟩
  · rw [run_slice_l (P := Try.prog) (w := wx) 22 a n c (by rw [Try.elem22]; exact Try.underlying22) .i64 m (by omega) (by omega)]
    obtain ⟨j, hj, hs⟩ := Option.map_eq_some_iff.1 Try.size24
    simp [Try.elem22, sizeOf, typeInfo, hj, hs, sliced, Result.andThen]
  · split
    · exact .inl (by omega)
    · exact h.drop hm
theorem Row3.at0 {w : World} {g n : Nat} {S F M : Nat → ByteArray} (h : Row3 w (some ⟨g, 0, Option.none⟩) n S F M) {k : Nat} (hk : k < n) :
    w.cell? ⟨g, k * 3, Option.none⟩ = some (.string (S k)) ∧ w.cell? ⟨g, k * 3 + 1, Option.none⟩ = some (.string (F k)) ∧ w.cell? ⟨g, k * 3 + 2, Option.none⟩ = some (.string (M k)) := by
  obtain ⟨b, off, he, h⟩ := h.head hk
  simp only [Option.some.injEq, Addr.mk.injEq, and_true] at he
  obtain ⟨rfl, rfl⟩ := he
  simpa only [Nat.zero_add] using h
theorem cells3_new (w : World) (a b c : Value) (e : TypeId) : ∀ (j : Nat) (u : Value), [a, b, c][j]? = some u → (w.alloc (.cells #[a, b, c] e)).cell? ((⟨w.heap.size, 0, Option.none⟩ : Addr).add j) = some u := by
  intro j u hj
  rw [Addr.add_lit, Nat.zero_add, World.cell?_alloc_new]
  simpa using hj
theorem oneCell3 (a b c : ByteArray) : ∀ u ∈ [Value.string a, .string b, .string c], u.oneCell' = true := by
  intro u hu
  simp at hu
  rcases hu with rfl | rfl | rfl <;> rfl
theorem app_step {w0 wr w7 : World} {k cap : Nat} {x0 x1 x2 : ByteArray} {o : Obj} (S F M : Nat → ByteArray) (hb : Below w0.heap.size w0 wr) (h0 : S k = x0) (h1 : F k = x1) (h2 : M k = x2)
    (hown : w7.ownsRow w0.heap.size 31 3 (.slice (some ⟨w0.heap.size, 0, Option.none⟩) (k + 1) cap) (k + 1) (flat S F M k ++ [.string x0, .string x1, .string x2])) (hg : (wr.alloc o).grownBy w7 (some w0.heap.size)) :
    w7.ownsRow w0.heap.size 31 3 (.slice (some ⟨w0.heap.size, 0, Option.none⟩) (k + 1) cap) (k + 1) (flat S F M (k + 1)) ∧ Below w0.heap.size w0 w7 := by
  subst h0; subst h1; subst h2
  refine ⟨hown, ?_⟩
  have := hb.size
  exact (hb.alloc this o).grown hg (by simp; omega) (by simp)
theorem count_below (w0 : World) {p n c : Nat} {a : Option Addr} {S F M : Nat → ByteArray} {s : ByteArray} {v : Int} (hp : w0.cell? ⟨p, 0, Option.none⟩ = some (.slice a n c)) (hr : Row3 w0 a n S F M) (hn : n ≤ 1048576)
    (hv : ((cnt S s n : Nat) : Int) = v) {w : World} (hb : Below w0.heap.size w0 w) :
    Calls Try.prog 8 #[.pointer (some ⟨p, 0, Option.none⟩), .string s] w fun e w' => e = .returned (.int .i64 v) ∧ Below w0.heap.size w0 w' := by
  subst hv
  exact (count_row p a n c S F M s w hn (cell_later hb hp) (hr.later hb)).mono fun e w' ⟨he, h⟩ => ⟨he, hb.trans (h.mono hb.size)⟩
end Go.Proofs.Qxb6627456a
