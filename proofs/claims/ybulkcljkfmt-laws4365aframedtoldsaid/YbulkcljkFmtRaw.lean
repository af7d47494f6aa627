import Derived.Test.YbulkcljkFmtStr
import Derived.Laws.CopyOwn
import Derived.LaidEql
namespace Go.Proofs.YbulkcljkFmt
open Go.RowKit Go.Extern.Stop Go.Stop Go.Extern

theorem Ybaf.info5 : (Ybaf.prog.info? 5).map (fun i => (i.zero, i.size, i.bytes)) = some (some (.int .u8 0), 1, 1) := by kernel_rfl

/-- what the walk is told of a slice of bytes that came in -/
structure InB (w : World) (p : Option Addr) (n c : Nat) (xs : List Int) : Prop where
  len : xs.length = n
  nil : p = none → n = 0 ∧ c = 0
  cap : n ≤ c
  big : c ≤ maxLen
  cells : Lib.BytesIn w p n xs
  rng : ∀ i, i < n → 0 ≤ xs.getD i 0 ∧ xs.getD i 0 ≤ 255

set_option maxRecDepth 100000 in
theorem raw_long (p : Option Addr) (n c : Nat) (pe : Bool) (f : ByteArray) (w : World) (hn : 4096 < n) (hc : n ≤ 9223372036854775807) :
    Calls Ybaf.prog 4 #[.slice p n c, .bool pe, .string f] w fun e w' => e = .returned (.bool true) ∧ Below w.heap.size w w' := by
  go_enter Ybaf.func4, Ybaf.ntmps4
  go_wp2
  go_ret
  exact ⟨rfl, Below.refl _ _⟩

theorem made_row {w1 : World} {B n : Nat} {xs : List Value} (h : w1.ownsRow B 5 1 (.slice (some ⟨B, 0, none⟩) n n) n xs) :
    ∃ cur : List Value, cur.length = n ∧ w1.heap[B]? = some (.cells cur.toArray 5 (0, 0)) := by
  obtain ⟨_, h | ⟨g, cap, cur, hv, _, hh, _, _, hs, _⟩⟩ := h
  · simp at h
  · simp at hv
    obtain ⟨rfl, rfl⟩ := hv
    exact ⟨cur.toList, by simpa using hs, by simpa using hh⟩

theorem copy_run {w w1 : World} {p : Option Addr} {n c : Nat} {xs : List Int} (h : InB w p n c xs) {B : Nat} (hb : Below B w w1) (hB : w.heap.size ≤ B) {cur : List Value} (hcl : cur.length = n)
    (hg : w1.heap[B]? = some (.cells cur.toArray 5 (0, 0))) :
    ∃ w2, (Builtin.copy_ #[22, 22] 3 #[.slice (some ⟨B, 0, none⟩) n n, .slice p n c]).run Ybaf.prog w1 = .ok (goInt n) w2 ∧ Below B w w2 ∧ (∀ i, i < n → w2.cell? ⟨B, i, none⟩ = some (.int .u8 (xs.getD i 0))) ∧ B < w2.heap.size := by
  have hlt : B < w1.heap.size := by
    apply Decidable.byContradiction
    intro hc
    rw [Array.getElem?_eq_none (by omega)] at hg
    cases hg
  have hl := h.len
  rcases Nat.eq_zero_or_pos n with h0 | hp
  · refine ⟨w1, ?_, hb, fun i hi => by omega, hlt⟩
    subst h0
    exact run_copy_none (P := Ybaf.prog) w1 22 22 3 5 _ _ 0 0 0 c Ybaf.underlying22 (by kernel_rfl) rfl
  · obtain ⟨b, o, rfl, hc⟩ := h.cells.at hp
    have hsrc : ∀ j v, (xs.map (Value.int .u8))[j]? = some v → w1.cell? ((⟨b, o, none⟩ : Addr).add j) = some v := by
      intro j v hj
      rw [List.getElem?_map] at hj
      obtain ⟨z, hz, rfl⟩ := Option.map_eq_some_iff.1 hj
      have hjl : j < n := by have := (List.getElem?_eq_some_iff.1 hz).1; omega
      have hcj := hc j hjl
      have hlt : b < w.heap.size := World.block_lt_of_cell? _ _ hcj
      have e : (⟨b, o, none⟩ : Addr).add j = ⟨b, o + j, none⟩ := by simp [Addr.add]
      rw [e, hb.cell (p := ⟨b, o + j, none⟩) (show b < B by omega), hcj]
      simp [List.getD, hz]
    have hrun := run_copy_row (P := Ybaf.prog) w1 22 22 3 5 B 0 n n ⟨b, o, none⟩ n c cur.toArray 5 (xs.map (Value.int .u8)) Ybaf.underlying22 (by kernel_rfl) hg (by simp [hl]) hsrc (by simp [hl, hcl])
      (by intro v hv; simp at hv; obtain ⟨_, _, rfl⟩ := hv; rfl)
    have e2 : (cur.toArray.toList.take 0 ++ xs.map (Value.int .u8) ++ cur.toArray.toList.drop (0 + (xs.map (Value.int .u8)).length)) = xs.map (Value.int .u8) := by
      simp [hl, ← hcl]
    rw [e2] at hrun
    have e3 : (xs.map (Value.int .u8)).length = n := by simp [hl]
    rw [e3] at hrun
    refine ⟨_, hrun, below_setRow hb (Nat.le_refl _) _, fun i hi => ?_, by simpa [World.setRow] using hlt⟩
    have hh := setRow_heap w1 B _ (xs.map (Value.int .u8)).toArray 5 _ hg
    have hil : i < xs.length := by omega
    simp [World.cell?, hh, hil, List.getD]

theorem new_any (s : ByteArray) (w : World) :
    Calls Ybaf.prog 7 #[.string s] w fun e w' => e = .returned (.iface 39 (.pointer (some ⟨w.heap.size, 0, none⟩))) ∧ w' = w.alloc (.cells #[.string s] 41) := by
  go_enter Ybaf.func7, Ybaf.ntmps7
  go_wp2
  go_ret
  exact ⟨rfl, rfl⟩

theorem bytes_later {w W : World} {p : Option Addr} {n : Nat} {xs : List Int} (h : Lib.BytesIn w p n xs) (hb : Below w.heap.size w W) : Lib.BytesIn W p n xs := by
  intro hn
  obtain ⟨b, o, rfl, hc⟩ := h.at hn
  exact ⟨b, o, rfl, fun i hi => cell_later hb (hc i hi)⟩

theorem bytes_row {w W : World} {B n : Nat} {xs : List Int} (h : ∀ i, i < n → w.cell? ⟨B, i, none⟩ = some (.int .u8 (xs.getD i 0))) (hb : Below w.heap.size w W) : Lib.BytesIn W (some ⟨B, 0, none⟩) n xs := by
  intro hn
  refine ⟨B, 0, rfl, fun i hi => ?_⟩
  rw [Nat.zero_add]
  exact cell_later hb (h i hi)

theorem q22e (w : World) (a : Option Addr) (n c : Nat) : (binOp .eql 22 (.slice a n c) (.slice none 0 0)).run Ybaf.prog w = .ok (.bool a.isNone) w := Lib.run_eql_slice_nil w 22 5 a n c 0 0 Ybaf.underlying22
theorem q28e (w : World) (a : Option Addr) (n c : Nat) : (binOp .eql 28 (.slice a n c) (.slice none 0 0)).run Ybaf.prog w = .ok (.bool a.isNone) w := Lib.run_eql_slice_nil w 28 27 a n c 0 0 Ybaf.underlying28
theorem q28n (w : World) (a : Option Addr) (n c : Nat) : (binOp .neq 28 (.slice a n c) (.slice none 0 0)).run Ybaf.prog w = .ok (.bool (!a.isNone)) w := run_neq_slice_nil_any w 28 27 a n c 0 0 Ybaf.underlying28
theorem Ybaf.cmp39 : (Ybaf.prog.info? 39).map (fun i => i.comparable) = some true := by kernel_rfl
theorem Ybaf.has41 : (Ybaf.prog.info? 41).isSome = true := by kernel_rfl
theorem q27same (w : World) (a : Addr) : (binOp .eql 27 (.iface 39 (.pointer (some a))) (.iface 39 (.pointer (some a)))).run Ybaf.prog w = .ok (.bool true) w := by
  obtain ⟨i, hi, hc⟩ := Option.map_eq_some_iff.1 Ybaf.cmp39
  obtain ⟨j, hj⟩ := Option.isSome_iff_exists.1 Ybaf.has41
  exact run_eql_iface_ptr_same w a Ybaf.underlying27 Ybaf.underlying39 hi hc hj

set_option maxRecDepth 100000 in
set_option maxHeartbeats 400000 in
theorem raw_pre (p : Option Addr) (n c : Nat) (xs : List Int) (f : ByteArray) (w : World) (hf : f.size ≤ 4611686018427387904) (hn : n ≤ 4096) (hin : InB w p n c xs) :
    Calls Ybaf.prog 4 #[.slice p n c, .bool true, .string f] w fun e w' => e = .returned (.bool true) ∧ Below w.heap.size w w' := by
  obtain ⟨i0, hi, hz0, hz1, hz2⟩ := info_parts Ybaf.info5
  have hq1 := q22e
  have hq2 := q28n
  have hq3 := q27same
  go_enter Ybaf.func4, Ybaf.ntmps4
  go_wp2_with (first | (at_make; refine wpList_make_full _ rfl (.tmp 18) (.tmp 18) 22 rfl w.heap.size 5 i0 (.int .u8 0) 1 Ybaf.underlying22 hi hz0 hz1 .i64 .i64 n n n rfl rfl rfl rfl (by rw [hz2]; omega) (by unfold maxLen; omega) (Nat.le_refl _) ?_; intro w1 hown1 hgrow1; obtain ⟨cur, hcl, hg⟩ := made_row hown1; have hb1 := (Below.refl w.heap.size w).grown hgrow1 (Nat.le_refl _) (by simp); obtain ⟨w2, hrun, hb2, hcells, hlt⟩ := copy_run hin hb1 (Nat.le_refl _) hcl hg; clear hown1 hgrow1 hg hb1) | fail)
  clear hrun
  refine (new_any _ _).mono ?_
  rintro e w3 ⟨rfl, rfl⟩
  go_wp2_with fail
  have hD : w2.heap.size < w2.heap.size + 1 := by omega
  refine (str_err w2.heap.size 39 (.pointer (some ⟨w2.heap.size + 1, 0, none⟩)) f _ hf ?_).mono ?_
  · go_simp
  rintro e w4 ⟨rfl, hw4⟩
  subst hw4
  go_wp2_with fail
  have hbW : Below w2.heap.size w2 ((w2.alloc (Obj.cells #[Value.slice (some { block := w.heap.size, off := 0 }) n n, Value.iface 39 (Value.pointer (some { block := w2.heap.size + 1, off := 0 })), Value.slice none 0 0] 30)).alloc (Obj.cells #[Value.string { data := #[101, 97, 114, 108, 105, 101, 114] }] 41)) :=
    ((Below.refl _ _).alloc (Nat.le_refl _) _).alloc (by simp) _
  have hbW0 := hb2.trans (hbW.mono (Nat.le_of_lt hlt))
  refine (equal_any (some ⟨w.heap.size, 0, none⟩) p n n c xs _ hin.len ?_ ?_).mono ?_
  · exact bytes_row hcells hbW
  · exact bytes_later hin.cells hbW0
  rintro e w4 ⟨rfl, hw4⟩
  subst hw4
  go_wp2
  go_ret
  exact ⟨rfl, hbW0⟩

theorem dec_new (w2 : World) (s : Value) : Dec (w2.alloc (Obj.cells #[s, Value.nilIface, Value.slice none 0 0] 30)) w2.heap.size s .nilIface := by
  refine ⟨?_, ?_, ?_, ?_, ?_⟩ <;> go_simp

set_option maxRecDepth 100000 in
set_option maxHeartbeats 400000 in
theorem raw_short (F : Interp) (p : Option Addr) (n c : Nat) (xs : List Int) (f : ByteArray) (w : World) (hF : F.answers w.tape) (hf : f.size ≤ 4611686018427387904) (hn : n < 4) (hin : InB w p n c xs) :
    Calls Ybaf.prog 4 #[.slice p n c, .bool false, .string f] w fun e w' => e = .returned (.bool true) ∧ Below w.heap.size w w' := by
  obtain ⟨i0, hi, hz0, hz1, hz2⟩ := info_parts Ybaf.info5
  have hq1 := q22e
  have hq2 := q28n
  go_enter Ybaf.func4, Ybaf.ntmps4
  go_wp2_with (first | (at_make; refine wpList_make_full _ rfl (.tmp 18) (.tmp 18) 22 rfl w.heap.size 5 i0 (.int .u8 0) 1 Ybaf.underlying22 hi hz0 hz1 .i64 .i64 n n n rfl rfl rfl rfl (by rw [hz2]; omega) (by unfold maxLen; omega) (Nat.le_refl _) ?_; intro w1 hown1 hgrow1; obtain ⟨cur, hcl, hg⟩ := made_row hown1; have hb1 := (Below.refl w.heap.size w).grown hgrow1 (Nat.le_refl _) (by simp); obtain ⟨w2, hrun, hb2, hcells, hlt⟩ := copy_run hin hb1 (Nat.le_refl _) hcl hg; clear hown1 hgrow1 hg hb1) | fail)
  clear hrun
  have hbW : Below w2.heap.size w2 (w2.alloc (Obj.cells #[Value.slice (some { block := w.heap.size, off := 0 }) n n, Value.nilIface, Value.slice none 0 0] 30)) := (Below.refl _ _).alloc (Nat.le_refl _) _
  refine (str_short F w2.heap.size (some ⟨w.heap.size, 0, none⟩) n n f _ hf ?_ hn ?_).mono ?_
  · show F.answers w2.tape
    rw [hb2.tape]
    exact hF
  · exact dec_new w2 _
  rintro e w4 ⟨rfl, q, hb4, hd4⟩
  obtain ⟨c0, c1, c2, f0, f1⟩ := hd4
  have hb5 := hbW.trans hb4
  have hbW0 := hb2.trans (hb5.mono (Nat.le_of_lt hlt))
  go_wp2_with fail
  refine (equal_any (some ⟨w.heap.size, 0, none⟩) p n n c xs _ hin.len ?_ ?_).mono ?_
  · exact bytes_row hcells hb5
  · exact bytes_later hin.cells hbW0
  rintro e w5 ⟨rfl, hw5⟩
  subst hw5
  go_wp2
  go_ret
  exact ⟨rfl, hbW0⟩

set_option maxRecDepth 100000 in
theorem be64_sum (x0 x1 x2 x3 : Int) (r0 : 0 ≤ x0 ∧ x0 ≤ 255) (r1 : 0 ≤ x1 ∧ x1 ≤ 255) (r2 : 0 ≤ x2 ∧ x2 ≤ 255) (r3 : 0 ≤ x3 ∧ x3 ≤ 255) :
    bits BinOp.or IntKind.u64 (bits BinOp.or IntKind.u64 (bits BinOp.or IntKind.u64 (x0 * 16777216) (x1 * 65536)) (x2 * 256)) x3 = be4 x0 x1 x2 x3 := by
  obtain ⟨n0, rfl⟩ := Int.eq_ofNat_of_zero_le r0.1
  obtain ⟨n1, rfl⟩ := Int.eq_ofNat_of_zero_le r1.1
  obtain ⟨n2, rfl⟩ := Int.eq_ofNat_of_zero_le r2.1
  obtain ⟨n3, rfl⟩ := Int.eq_ofNat_of_zero_le r3.1
  have e2 : ((n2 : Int) * 256) = ((n2 * 256 : Nat) : Int) := by omega
  have e1 : ((n1 : Int) * 65536) = ((n1 * 65536 : Nat) : Int) := by omega
  have e0 : ((n0 : Int) * 16777216) = ((n0 * 16777216 : Nat) : Int) := by omega
  have h1 : (n0 * 16777216) ||| (n1 * 65536) = (n0 * 256 + n1) * 65536 := by
    rw [Nat.or_comm, or_mul (n1 * 65536) n0 24 16777216 (by decide) (by omega)]
    omega
  have h2 : ((n0 * 256 + n1) * 65536) ||| (n2 * 256) = ((n0 * 256 + n1) * 256 + n2) * 256 := by
    rw [Nat.or_comm, or_mul (n2 * 256) (n0 * 256 + n1) 16 65536 (by decide) (by omega)]
    omega
  have h3 : (((n0 * 256 + n1) * 256 + n2) * 256) ||| n3 = ((n0 * 256 + n1) * 256 + n2) * 256 + n3 := by
    rw [Nat.or_comm, or_mul n3 ((n0 * 256 + n1) * 256 + n2) 8 256 (by decide) (by omega)]
  rw [e2, e1, e0, u64_or_nat (n0 * 16777216) (n1 * 65536) (by omega) (by omega), h1, u64_or_nat ((n0 * 256 + n1) * 65536) (n2 * 256) (by omega) (by omega), h2, u64_or_nat (((n0 * 256 + n1) * 256 + n2) * 256) n3 (by omega) (by omega), h3]
  unfold be4
  omega

theorem bytes_cut {W : World} {b o o' n m k : Nat} {xs : List Int} (h : ∀ i, i < n → W.cell? ⟨b, o + i, none⟩ = some (.int .u8 (xs.getD i 0))) (_hl : xs.length = n) (hk : k + m ≤ n) (ho : m = 0 ∨ o' = o + k) :
    Lib.BytesIn W (some ⟨b, o', none⟩) m ((xs.drop k).take m) := by
  intro hm
  refine ⟨b, o', rfl, fun i hi => ?_⟩
  obtain rfl : o' = o + k := by omega
  have := h (k + i) (by omega)
  rw [show o + k + i = o + (k + i) from by omega, this]
  have e : ((xs.drop k).take m).getD i 0 = xs.getD (k + i) 0 := by
    simp [List.getD, hi]
  rw [e]

theorem cut_len {xs : List Int} {n m k : Nat} (hl : xs.length = n) (hk : k + m ≤ n) : ((xs.drop k).take m).length = m := by simp; omega

set_option maxRecDepth 100000 in
set_option maxHeartbeats 800000 in
theorem raw_over (F : Interp) (b o n c : Nat) (xs : List Int) (b0 b1 b2 b3 : Int) (f : ByteArray) (w : World) (hF : F.answers w.tape) (hf : f.size ≤ 4611686018427387904) (hn : n ≤ 4096) (hn4 : 4 ≤ n) (hin : InB w (some ⟨b, o, none⟩) n c xs)
    (e0 : xs.getD 0 0 = b0) (e1 : xs.getD 1 0 = b1) (e2 : xs.getD 2 0 = b2) (e3 : xs.getD 3 0 = b3) (hN : ((n - 4 : Nat) : Int) < be4 b0 b1 b2 b3) (hc4 : c = 4 ∨ 4 < c) :
    Calls Ybaf.prog 4 #[.slice (some ⟨b, o, none⟩) n c, .bool false, .string f] w fun e w' => e = .returned (.bool true) ∧ Below w.heap.size w w' := by
  obtain ⟨i0, hi, hz0, hz1, hz2⟩ := info_parts Ybaf.info5
  have hq1 := q22e
  have hq2 := q28n
  have r0 := hin.rng 0 (by omega)
  have r1 := hin.rng 1 (by omega)
  have r2 := hin.rng 2 (by omega)
  have r3 := hin.rng 3 (by omega)
  obtain ⟨b', o', hbo, hcs⟩ := hin.cells.at (by omega)
  simp at hbo
  obtain ⟨rfl, rfl⟩ := hbo
  have x0 := hcs 0 (by omega)
  have x1 := hcs 1 (by omega)
  have x2 := hcs 2 (by omega)
  have x3 := hcs 3 (by omega)
  rw [e0] at x0 r0
  rw [e1] at x1 r1
  rw [e2] at x2 r2
  rw [e3] at x3 r3
  rw [Nat.add_zero] at x0
  clear hcs
  have HE : Hid (xs.getD 0 0 = b0 ∧ xs.getD 1 0 = b1 ∧ xs.getD 2 0 = b2 ∧ xs.getD 3 0 = b3) := ⟨e0, e1, e2, e3⟩
  clear e0 e1 e2 e3
  have hsum := be64_sum b0 b1 b2 b3 r0 r1 r2 r3
  obtain ⟨NN, hNN⟩ : ∃ NN, NN = be4 b0 b1 b2 b3 := ⟨_, rfl⟩
  rw [← hNN] at hsum hN
  have HNN : Hid (NN = be4 b0 b1 b2 b3) := hNN
  clear hNN
  have hN2 : (n : Int) - 4 < NN := by omega
  go_enter Ybaf.func4, Ybaf.ntmps4
  go_wp2_with (first | (at_make; refine wpList_make_full _ rfl (.tmp 18) (.tmp 18) 22 rfl w.heap.size 5 i0 (.int .u8 0) 1 Ybaf.underlying22 hi hz0 hz1 .i64 .i64 n n n rfl rfl rfl rfl (by rw [hz2]; omega) (by unfold maxLen; omega) (Nat.le_refl _) ?_; intro w1 hown1 hgrow1; obtain ⟨cur, hcl, hg⟩ := made_row hown1; have hb1 := (Below.refl w.heap.size w).grown hgrow1 (Nat.le_refl _) (by simp); obtain ⟨w2, hrun, hb2, hcells, hlt⟩ := copy_run hin hb1 (Nat.le_refl _) hcl hg; clear hown1 hgrow1 hg hb1) | fail)
  clear hrun
  have hbW : Below w2.heap.size w2 (w2.alloc (Obj.cells #[Value.slice (some { block := w.heap.size, off := 0 }) n n, Value.nilIface, Value.slice none 0 0] 30)) := (Below.refl _ _).alloc (Nat.le_refl _) _
  have y0 := hcells 0 (by omega)
  have y1 := hcells 1 (by omega)
  have y2 := hcells 2 (by omega)
  have y3 := hcells 3 (by omega)
  rw [HE.out.1] at y0
  rw [HE.out.2.1] at y1
  rw [HE.out.2.2.1] at y2
  rw [HE.out.2.2.2] at y3
  refine (str_over F w2.heap.size w.heap.size 0 n n b0 b1 b2 b3 f _ hf ?_ hn4 (Nat.le_refl _) (by omega) r0 r1 r2 r3 ?_ ?_ ?_ ?_ ?_ (by rw [← HNN.out]; exact hN)).mono ?_
  · show F.answers w2.tape
    rw [hb2.tape]
    exact hF
  · exact cell_later hbW y0
  · exact cell_later hbW y1
  · exact cell_later hbW y2
  · exact cell_later hbW y3
  · exact dec_new w2 _
  rintro e w4 ⟨o2, ho2, rfl, q, hb4, hd4⟩
  obtain ⟨c0, c1, c2, f0, f1⟩ := hd4
  have hb5 := hbW.trans hb4
  have hbW0 := hb2.trans (hb5.mono (Nat.le_of_lt hlt))
  replace x0 := cell_later hbW0 x0
  replace x1 := cell_later hbW0 x1
  replace x2 := cell_later hbW0 x2
  replace x3 := cell_later hbW0 x3
  clear y0 y1 y2 y3
  have i0 : (0 : Int) < (n : Int) := by omega
  have i1 : (1 : Int) < (n : Int) := by omega
  have i2 : (2 : Int) < (n : Int) := by omega
  have i3 : (3 : Int) < (n : Int) := by omega
  have HO : Hid (n = 4 ∨ o2 = 0 + 4) := ho2
  clear ho2
  go_wp2_with fail
  go_quiet (fail)
  have hd5 : Dec (w4.drewN nq) w2.heap.size (.slice (some ⟨w.heap.size, o2, none⟩) (n - 4) (n - 4)) (.iface 39 q) := ⟨c0, c1, c2, f0, f1⟩
  have hb6 := below_drewN hb5 nq
  have hb7 := below_drewN hbW0 nq
  clear c0 c1 c2 f0 f1 x0 x1 x2 x3
  generalize w4.drewN nq = w5 at hd5 hb6 hb7 ⊢
  obtain ⟨c0, c1, c2, f0, f1⟩ := hd5
  clear hb5 hbW0 hb4
  have hlen := hin.len
  have hcW : ∀ i, i < n → w5.cell? ⟨w.heap.size, 0 + i, none⟩ = some (.int .u8 (xs.getD i 0)) := fun i hi => by rw [Nat.zero_add]; exact cell_later hb6 (hcells i hi)
  obtain ⟨b', o', hbo, hcs⟩ := (bytes_later hin.cells hb7).at (by omega)
  simp at hbo
  obtain ⟨rfl, rfl⟩ := hbo
  have E1 : Lib.BytesIn w5 (some ⟨w.heap.size, o2, none⟩) (n - 4) ((xs.drop 4).take (n - 4)) := bytes_cut hcW hlen (by omega) (by rcases HO.out with h | h <;> omega)
  have E2 := cut_len (k := 4) (m := n - 4) hlen (by omega)
  have H1 : Hid (Lib.BytesIn w5 (some ⟨w.heap.size, o2, none⟩) (n - 4) ((xs.drop 4).take (n - 4)) ∧ ((xs.drop 4).take (n - 4)).length = n - 4) := ⟨E1, E2⟩
  have H2 : Hid (∀ o', (n - 4 = 0 ∨ o' = o + 4) → Lib.BytesIn w5 (some ⟨b, o', none⟩) (n - 4) ((xs.drop 4).take (n - 4))) := fun o' h => bytes_cut hcs hlen (by omega) h
  clear hcW hcs E1 E2 hlen hcells
  have hcap : n ≤ c := hin.cap
  have i4 : (4 : Int) ≤ (n : Int) := by omega
  have HB : Hid (Below w.heap.size w w5) := hb7
  clear hin hb6 hb7
  rcases hc4 with hc4 | hc4
  · subst hc4
    obtain rfl : n = 4 := by omega
    go_wp2_with fail
    go_quiet ((go_at_call 6; refine Calls.quiet_of_same (equal_any _ _ 0 _ _ [] _ rfl ?_ ?_); exact Lib.BytesIn.nil _ _ _; exact Lib.BytesIn.nil _ _ _))
    go_wp2
    go_ret
    exact ⟨rfl, below_drewN HB.out _⟩
  · go_wp2_with fail
    go_quiet ((go_at_call 6; refine Calls.quiet_of_same (equal_any _ _ _ _ _ _ _ H1.out.2 ?_ ?_); exact H1.out.1; exact H2.out _ (Or.inr rfl)))
    go_wp2
    go_ret
    exact ⟨rfl, below_drewN HB.out _⟩
end Go.Proofs.YbulkcljkFmt
