/-
  DERIVED. MEMORY OF THE CALLS' OWN: a block of bytes ('Blk'), what 'make', 'copy' and a store do to it, as laws for the walk. By an AI agent.
-/
import Derived.Test.Qxb6630907aCallees
import Derived.Laws.CopyOwn
import Derived.OpenShut
namespace Go.Proofs.Qxb6630907a
open Go.RowKit

def cellB (b : UInt8) : Value := .int .u8 (b.toNat : Int)

/-- Block g holds the bytes l, and nothing else; none of it is frozen. -/
def Blk (w : World) (g : Nat) (l : List UInt8) : Prop := w.heap[g]? = some (.cells (l.map cellB).toArray 5 (0, 0))

section
variable {w : World} {g : Nat} {l : List UInt8}

theorem Blk.cell (h : Blk w g l) (j : Nat) (hj : j < l.length) : w.cell? ⟨g, j, none⟩ = some (.int .u8 (l[j].toNat : Int)) := by
  rw [cell_of_row w g j _ 5 (0, 0) h]
  simp [cellB, hj]

theorem Blk.frozen (h : Blk w g l) (j : Nat) : w.frozen? ⟨g, j, none⟩ = false := frozen_of_row w g j _ 5 h

theorem Blk.lt (h : Blk w g l) : g < w.heap.size := by
  have := h
  unfold Blk at this
  exact (Array.getElem?_eq_some_iff.1 this).1

theorem Blk.row (h : Blk w g l) : RowB w (some ⟨g, 0, none⟩) l :=
  .inr ⟨g, 0, rfl, fun j hj => by rw [Nat.zero_add]; exact h.cell j hj⟩

theorem Blk.set (h : Blk w g l) (j : Nat) (x : UInt8) : Blk (w.setCell ⟨g, j, none⟩ (.int .u8 (x.toNat : Int))) g (l.set j x) := by
  have := heap_setCell_same w g j _ 5 (.int .u8 (x.toNat : Int)) h
  unfold Blk
  rw [this]
  simp [cellB, List.map_set]

theorem RowB.below {w' : World} {a : Option Addr} (h : RowB w a l) (hb : Below w.heap.size w w') : RowB w' a l := by
  rcases h with rfl | ⟨b, off, rfl, hc⟩
  · exact .inl rfl
  · exact .inr ⟨b, off, rfl, fun j hj => cell_later hb (hc j hj)⟩
end

/-- Where there is a byte there is an address. -/
theorem RowB.at {w : World} {a : Option Addr} {l : List UInt8} (h : RowB w a l) (hp : 0 < l.length) : ∃ b off, a = some ⟨b, off, none⟩ ∧ ∀ j (hj : j < l.length), w.cell? ⟨b, off + j, none⟩ = some (.int .u8 (l[j].toNat : Int)) := by
  rcases h with rfl | h
  · simp at hp
  · exact h

theorem below_step {w0 w1 w2 : World} (h : Below w0.heap.size w0 w1) (k : Below w1.heap.size w1 w2) : Below w0.heap.size w0 w2 := h.trans (k.mono h.size)

theorem Try.info5 : (Try.prog.info? 5).map (fun i => (i.zero, i.size, i.bytes)) = some (some (.int .u8 0), 1, 1) := by kernel_rfl
theorem Try.size5 : (Try.prog.info? 5).map (·.size) = some 1 := by
  obtain ⟨i, hi, _, h1, _⟩ := info_parts Try.info5
  rw [hi]; simp [h1]

/-- 'make([]byte, n)'. -/
theorem wpList_make_bytes {w : World} {ops : Array Oper} {rest : List Oper} {o : Oper} {a : Act} {Q : Exit → Act → World → Prop}
    (hg : o.guard = none) (l c : Operand) (hop : o.op = Op.makeSlice 22 l c) (L : Int) (n : Nat) (hl : a.eval l = .int .i64 L) (hc : a.eval c = .int .i64 L) (hL : L = (n : Int)) (hn : n ≤ 4294967296)
    (hK : ∀ w', Hid (Blk w' w.heap.size (List.replicate n 0)) → Below w.heap.size w w' → wpList Try.prog ops Q rest (a.put o.dst (.slice (some ⟨w.heap.size, 0, none⟩) n n)) w') :
    wpList Try.prog ops Q (o :: rest) a w := by
  obtain ⟨i, hi, hz0, hz1, hz2⟩ := info_parts Try.info5
  refine wpList_plain hg fun K hK' => ?_
  have hr := run_make (P := Try.prog) w 22 5 i (.int .u8 0) Try.underlying22 hi hz0 .i64 .i64 n n (by omega) (Int.le_refl _) (by rw [hz2]; omega) (by omega)
  subst hL
  unfold Oper.wp
  simp [execOp, hop, hl, hc, hr, Result.andThen]
  refine hK' _ _ (hK _ ?_ ?_)
  · show (w.alloc _).heap[w.heap.size]? = _
    rw [heap_alloc_new, hz1]
    congr 2
    apply Array.toList_inj.1
    have : (Value.int .u8 0).cells = #[.int .u8 0] := rfl
    rw [this, toList_madeCells_one]
    simp [cellB]
  · exact (Below.refl _ _).alloc (Nat.le_refl _) _

/-- 'copy(d, s)', d the whole of a block of the call's own, s as long. -/
theorem wpList_copy_bytes {w : World} {ops : Array Oper} {rest : List Oper} {o : Oper} {a : Act} {Q : Exit → Act → World → Prop}
    (hg : o.guard = none) (d s : Operand) (ho : o.op = .call { callee := .builtin .copy, args := #[d, s], argTypes := #[22, 22] })
    (g dcap scap : Nat) (sp : Option Addr) (l z : List UInt8) (hd : a.eval d = .slice (some ⟨g, 0, none⟩) l.length dcap) (hs : a.eval s = .slice sp l.length scap)
    (hB : Blk w g z) (hz : z.length = l.length) (hr : RowB w sp l) (w0 : World) (hb : Below g w0 w)
    (hK : ∀ w', Hid (Blk w' g l) → Below g w0 w' → wpList Try.prog ops Q rest (a.put o.dst (goInt l.length)) w') :
    wpList Try.prog ops Q (o :: rest) a w := by
  refine wpList_copy_splice (P := Try.prog) hg d s 22 22 ho 5 Try.underlying22 Try.size5 (some ⟨g, 0, none⟩) sp l.length dcap l.length scap hd hs g 0 (z.map cellB) 5 hB (l.map cellB) (by simp) ?_ (by simp; omega) ?_ g w0 hb (Nat.le_refl _) ?_
  · intro hp
    refine ⟨rfl, ?_⟩
    rcases hr with rfl | ⟨b, off, rfl, hc⟩
    · simp at hp
    · refine ⟨_, rfl, fun j v hj => ?_⟩
      have hjl : j < l.length := by
        have := (List.getElem?_eq_some_iff.1 hj).1
        simpa using this
      rw [Addr.add_lit, hc j hjl]
      simpa [cellB, hjl] using hj
  · intro v hv
    obtain ⟨_, _, rfl⟩ := List.mem_map.1 hv
    rfl
  · intro w' hw' hb'
    have e : splice (z.map cellB) 0 (l.map cellB) = l.map cellB := by
      simp [splice, hz]
    have h1 : Blk w' g l := by
      have := hw'.out
      rw [e] at this
      exact this
    simpa using hK w' h1 hb'

/-- A guard for an arm: it fits where the next operation is the builtin copy, and nowhere else ('with_reducible refine at_copy_ ?_'). -/
theorem at_copy_ {P : Program} {w : World} {ops : Array Oper} {rest : List Oper} {dst : Option Tmp} {args : Array Operand} {tys : Array TypeId} {ty : TypeId} {pos : String} {after : Array Edge} {a : Act} {Q : Exit → Act → World → Prop}
    (h : wpList P ops Q (⟨dst, .call ⟨.builtin .copy, args, tys⟩, ty, pos, after, none⟩ :: rest) a w) : wpList P ops Q (⟨dst, .call ⟨.builtin .copy, args, tys⟩, ty, pos, after, none⟩ :: rest) a w := h

/-- What is filled in so far, zeros behind it. -/
def pad (n : Nat) (l : List UInt8) : List UInt8 := l ++ List.replicate (n - l.length) 0

theorem pad_length {n : Nat} {l : List UInt8} (h : l.length ≤ n) : (pad n l).length = n := by simp [pad]; omega
theorem pad_nil (n : Nat) : pad n [] = List.replicate n 0 := by simp [pad]
theorem pad_full {n : Nat} {l : List UInt8} (h : l.length = n) : pad n l = l := by simp [pad, h]
theorem pad_set {n : Nat} {l : List UInt8} (h : l.length < n) (x : UInt8) : (pad n l).set l.length x = pad n (l ++ [x]) := by
  unfold pad
  obtain ⟨m, hm⟩ : ∃ m, n - l.length = m + 1 := ⟨n - l.length - 1, by omega⟩
  have e2 : n - (l ++ [x]).length = m := by simp; omega
  rw [hm, e2, List.replicate_succ, List.set_append_right _ _ (Nat.le_refl _)]
  simp

/-- A store at the place where the filling has come to. -/
theorem Blk.push {w : World} {g n : Nat} {l l' : List UInt8} {x : UInt8} (h : Blk w g (pad n l)) (hl : l.length < n) (e : l' = l ++ [x]) {k : Nat} (hk : k = l.length) :
    Blk (w.setCell ⟨g, k, none⟩ (.int .u8 (x.toNat : Int))) g (pad n l') := by
  subst hk; subst e
  rw [← pad_set hl]
  exact h.set _ _

/-- What a round that fills one byte more wants and leaves. -/
theorem fill_step {w : World} {g n k : Nat} {l l' : List UInt8} {x : UInt8} (h : Blk w g (pad n l)) (hl : l.length = k) (hk : k < n) (e : l' = l ++ [x]) :
    (∃ u : UInt8, w.cell? ⟨g, k, none⟩ = some (.int .u8 (u.toNat : Int))) ∧ w.frozen? ⟨g, k, none⟩ = false ∧ Hid (Blk (w.setCell ⟨g, k, none⟩ (.int .u8 (x.toNat : Int))) g (pad n l')) :=
  ⟨⟨_, h.cell k (by rw [pad_length (by omega)]; omega)⟩, h.frozen k, h.push (by omega) e hl.symm⟩

/-! ### From what the frame of the proof says of a slice that came in to 'RowB' -/
theorem bytes_of {w : World} {a : Option Addr} {len cap : Nat} {zs : List Int}
    (h : (a = none ∧ len = 0 ∧ cap = 0 ∧ zs = []) ∨
      ∃ x, a = some x ∧ len ≤ cap ∧ cap ≤ maxLen ∧ zs.length = cap ∧ (∀ i, i < zs.length → w.cell? (x.add i) = some (.int .u8 (zs.getD i 0))) ∧ ∀ n ∈ zs, (Lit.int .u8 n).wf = true) :
    ∃ A : List UInt8, A.length = len ∧ RowB w a A ∧ (a = none → A = []) ∧ len ≤ 9223372036854775807 := by
  rcases h with ⟨rfl, rfl, rfl, rfl⟩ | ⟨x, rfl, hl, hm, hz, hc, hw⟩
  · exact ⟨[], rfl, .inl rfl, fun _ => rfl, by omega⟩
  · refine ⟨(zs.take len).map (fun z => UInt8.ofNat z.toNat), (by simp; omega), ?_, (fun h => absurd h (by simp)), (by unfold maxLen at hm; omega)⟩
    by_cases h0 : len = 0
    · subst h0; exact .inl (by simp)
    · obtain ⟨b, off, rfl, hc'⟩ := ints_at hc (by omega)
      refine .inr ⟨b, off, rfl, fun j hj => ?_⟩
      have hjl : j < zs.length := by simp at hj; omega
      rw [hc' j hjl]
      have hb := bounds_u8 (hw _ (List.getElem_mem hjl))
      have e : zs.getD j 0 = zs[j] := by simp [List.getD, hjl]
      rw [e]
      simp
      omega

/-! ### Strings -/
theorem str_append (A B : List UInt8) : (⟨A.toArray⟩ : ByteArray) ++ ⟨B.toArray⟩ = ⟨(A ++ B).toArray⟩ := by
  apply ByteArray.ext
  simp

theorem str_some {A : List UInt8} {s : ByteArray} (h : s = ⟨A.toArray⟩) (hp : 1 ≤ A.length) : s.toList.isEmpty = false := by
  subst h
  rw [ByteArray.toList_mk]
  cases A with
  | nil => simp at hp
  | cons x l => rfl

/-- Empty or not, in the walk's own form. -/
theorem two_ways {A : List UInt8} {s : ByteArray} (h : s = ⟨A.toArray⟩) : (((A.length : Int) == 0) = true) ∨ (((A.length : Int) == 0) = false ∧ s.toList.isEmpty = false) := by
  by_cases hp : 1 ≤ A.length
  · exact .inr ⟨by simp; intro e; subst e; simp at hp, str_some h hp⟩
  · exact .inl (by simp; exact List.eq_nil_of_length_eq_zero (by omega))

theorem some_of_false {A : List UInt8} (h : allLow A = false) : ((A.length : Int) == 0) = false := by
  cases A with
  | nil => simp [allLow] at h
  | cons x l => simp; omega

theorem asked_empty {A : List UInt8} (h : allLow A = false) : (⟨#[]⟩ : ByteArray) = ⟨(askedL A).toArray⟩ := by rw [askedL_no h]

/-- 's + t' of two strings whose bytes are told. -/
theorem run_join {w : World} {A B : List UInt8} {sA sB sJ : ByteArray} (hA : sA = ⟨A.toArray⟩) (hB : sB = ⟨B.toArray⟩) (hJ : sJ = ⟨(A ++ B).toArray⟩) (hz : A.length + B.length ≤ 9223372036854775807) :
    Sem.run Try.prog (Op.stringOp .add sA sB) w = .ok (.string sJ) w := by
  rw [run_string_add_sum w sA sB (by subst hA; subst hB; exact hz), hJ, hA, hB, str_append]

/-! ### The callees' contracts as the laws call them: the length, the answer given from outside -/

theorem all_at {a : Option Addr} {l : List UInt8} {n cap : Nat} {w : World} {v : Bool} (h : RowB w a l) (hn : l.length = n) (hm : n ≤ 4294967296) (hv : allLow l = v) :
    Calls Try.prog 6 #[.slice a n cap] w fun e w' => e = .returned (.bool v) ∧ w' = w := by
  subst hn; subst hv; exact all_any a l cap w h hm

theorem asked_at {a : Option Addr} {l : List UInt8} {n cap : Nat} {w : World} {s : ByteArray} (h : RowB w a l) (hn : l.length = n) (hm : n ≤ 4294967296) (hv : s = ⟨(askedL l).toArray⟩) :
    Calls Try.prog 7 #[.slice a n cap] w fun e w' => e = .returned (.string s) ∧ w' = w := by
  subst hn; subst hv; exact asked_any a l cap w h hm

theorem str_at {a : Option Addr} {l : List UInt8} {n cap : Nat} {w : World} {s : ByteArray} (h : RowB w a l) (hn : l.length = n) (hv : s = ⟨l.toArray⟩) :
    (convert 22 9 (.slice a n cap)).run Try.prog w = .ok (.string s) w := by
  subst hn; subst hv; exact run_str w a l cap h

end Go.Proofs.Qxb6630907a
