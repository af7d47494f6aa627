import Derived.Test.YbulkclmcWd
import Derived.Test.YbulkclmcSortA
namespace Go.Proofs.Ybulkclmc
open Go.RowKit

theorem below_then {W X w1 : World} (h : Below X.heap.size X w1) (k : Below W.heap.size W X) : Below W.heap.size W w1 := k.trans (h.mono k.size)
theorem below_new {W X : World} (k : Below W.heap.size W X) (o : Obj) : Below W.heap.size W (X.alloc o) := k.alloc k.size o
theorem below_drewN {B : Nat} {a w : World} (h : Below B a w) (q : Nat) : Below B a (w.drewN q) := ⟨h.os, h.tape, h.output, h.size, h.block⟩

/-- what ok reads of an agent with one value and no stored nogood -/
structure OkIn (AG DB SB PB O : Nat) (v tag : Int) (w : World) : Prop where
  a2 : w.cell? ⟨AG, 2, none⟩ = some (.slice (some ⟨DB, 0, none⟩) 1 1)
  a6 : w.cell? ⟨AG, 6, none⟩ = some (.pointer (some ⟨O, 0, none⟩))
  a8 : w.cell? ⟨AG, 8, none⟩ = some (.int .i64 0)
  a9 : w.cell? ⟨AG, 9, none⟩ = some (.int .i64 tag)
  a11 : w.cell? ⟨AG, 11, none⟩ = some (.slice (some ⟨SB, 0, none⟩) 1 1)
  a12 : w.cell? ⟨AG, 12, none⟩ = some (.slice (some ⟨PB, 0, none⟩) 1 1)
  d0 : w.cell? ⟨DB, 0, none⟩ = some (.int .i64 v)
  s0 : w.cell? ⟨SB, 0, none⟩ = some (.slice none 0 0)
  s1 : w.cell? ⟨SB, 1, none⟩ = some (.bool false)
  p0 : w.cell? ⟨PB, 0, none⟩ = some (.bool false)

theorem OkIn.later {AG DB SB PB O : Nat} {v tag : Int} {w w' : World} (h : OkIn AG DB SB PB O v tag w) (hb : Below w.heap.size w w') : OkIn AG DB SB PB O v tag w' :=
  ⟨cell_later hb h.a2, cell_later hb h.a6, cell_later hb h.a8, cell_later hb h.a9, cell_later hb h.a11, cell_later hb h.a12, cell_later hb h.d0, cell_later hb h.s0, cell_later hb h.s1, cell_later hb h.p0⟩

abbrev OkS (AG DB SB O : Nat) (v tag : Int) (W w' : World) : Prop :=
  w'.cell? ⟨AG, 2, none⟩ = some (.slice (some ⟨DB, 0, none⟩) 1 1) ∧ w'.cell? ⟨AG, 6, none⟩ = some (.pointer (some ⟨O, 0, none⟩)) ∧ w'.cell? ⟨AG, 8, none⟩ = some (.int .i64 0) ∧ w'.cell? ⟨AG, 9, none⟩ = some (.int .i64 tag) ∧ w'.cell? ⟨AG, 11, none⟩ = some (.slice (some ⟨SB, 0, none⟩) 1 1) ∧
  w'.cell? ⟨DB, 0, none⟩ = some (.int .i64 v) ∧ w'.cell? ⟨SB, 0, none⟩ = some (.slice none 0 0) ∧ w'.cell? ⟨SB, 1, none⟩ = some (.bool false) ∧ Below W.heap.size W w'

theorem okS {AG DB SB PB O : Nat} {v tag : Int} {W w' : World} (h : OkIn AG DB SB PB O v tag W) (hb : Below W.heap.size W w') : OkS AG DB SB O v tag W w' :=
  have k := h.later hb
  ⟨k.a2, k.a6, k.a8, k.a9, k.a11, k.d0, k.s0, k.s1, hb⟩

structure OkCells (R O : Nat) (v D : Int) (w : World) : Prop where
  c0 : w.cell? ⟨R, 0, none⟩ = some (.int .i64 v)
  c2 : w.cell? ⟨R, 2, none⟩ = some (.int .i64 D)
  c3 : w.cell? ⟨R, 3, none⟩ = some (.slice none 0 0)
  c4 : w.cell? ⟨R, 4, none⟩ = some (.int .i64 1)
  c5 : w.cell? ⟨R, 5, none⟩ = some (.pointer (some ⟨O, 0, none⟩))
  free : w.frozen? ⟨R, 2, none⟩ = false

def OkPost (AG RP O na me : Nat) (v D : Int) (repF : Nat → Value) (w : World) (e : Ending) (w' : World) : Prop :=
  ∃ R, e = .returned (.pointer (some ⟨R, 0, none⟩)) ∧ OkCells R O v D w' ∧ w.heap.size ≤ R ∧ w'.cell? ⟨AG, 16, none⟩ = some (.int .i64 D) ∧ Cells w' RP na (fun i => if i = me then .int .i64 D else repF i) ∧ Keeps (fun b => b = AG ∨ b = RP) w w'

set_option maxRecDepth 100000 in
set_option maxHeartbeats 800000 in
theorem ok_wd (AG DB SB PB O ARC V WS RP na m me : Nat) (v tag deg : Int) (oth : Nat → Nat) (kn : Nat → Bool) (wt : Nat → Int) (arcF viewF repF : Nat → Value) (w : World)
    (hO : OkIn AG DB SB PB O v tag w) (hI : WdIn AG ARC V WS RP na m me deg oth kn wt arcF viewF repF w) (hm : m ≤ 1024) (hna : na ≤ 6) (hme : me < na) (hAR : ¬ AG = RP) :
    Calls Yba.prog 13 #[.pointer (some ⟨AG, 0, none⟩)] w fun e w' => OkPost AG RP O na me v (wdVal deg (sumTo kn oth wt m)) repF w e w' := by
  have a11 := hO.a11
  have a12 := hO.a12
  have s0 := hO.s0
  have s1 := hO.s1
  have p0 := hO.p0
  have hAG : AG < w.heap.size := World.block_lt_of_cell? _ _ a11
  have hSB : SB < w.heap.size := World.block_lt_of_cell? _ _ s0
  have hPB : PB < w.heap.size := World.block_lt_of_cell? _ _ p0
  have q37n : ∀ (w : World) (a : Option Addr) (n c : Nat), (binOp .neq 37 (.slice a n c) (.slice none 0 0)).run Yba.prog w = .ok (.bool (!a.isNone)) w := fun w a n c => run_neq_slice_nil_any w 37 3 a n c 0 0 Yba.underlying37
  go_enter Yba.func13, Yba.ntmps13
  go_wp2_with fail
  refine wp_loop_rounds 2 ?_
  rw [rounds_succ]
  go_wp2_with fail
  rw [rounds_succ]
  go_upto_region 8 with fail
  have hb0 : Below w.heap.size w (w.alloc (Obj.cells #[Value.slice none 0 0, Value.bool false] 60)) := (Below.refl _ _).alloc (Nat.le_refl _) _
  have hO1 := hO.later hb0
  have hK1 : Keeps (fun _ => False) w (w.alloc (Obj.cells #[Value.slice none 0 0, Value.bool false] 60)) := Keeps.of_below hb0
  have HI : Hid (WdIn AG ARC V WS RP na m me deg oth kn wt arcF viewF repF w) := hI
  clear hI hO a11 a12 s0 s1 p0 hb0
  generalize w.alloc (Obj.cells #[Value.slice none 0 0, Value.bool false] 60) = W at *
  have HK : Hid (Keeps (fun _ => False) w W) := hK1
  have hsz := hK1.size
  clear hK1
  go_cut [6] (fun s6 wx => ∃ R, s6 = .pointer (some ⟨R, 0, none⟩) ∧ OkCells R O v 0 wx ∧ W.heap.size ≤ R ∧ Below W.heap.size W wx)
  case first =>
    go_region_held3 (fun w' => OkS AG DB SB O v tag W w') ((refine okS hO1 ?_; repeat (first | refine Below.drew ?_ | refine below_drewN ?_ _ | refine below_new ?_ _ | refine below_then hbU ?_ | exact Below.refl _ _))) (first | (go_at_call 20; refine (value_any AG DB 1 1 0 v _ ?_ ?_ ?_ (by omega)).mono ?_; (simp [*]); (simp [*]); (simp [*]); rintro e wq ⟨rfl, q, rfl⟩) | (go_at_call 21; refine (union_nil AG SB _ ?_ ?_ ?_).mono ?_; (simp [*]); (simp [*]); (simp [*]); rintro e wu ⟨rfl, hbU⟩))
    obtain ⟨_, _, _, _, _, _, _, _, hbb⟩ : OkS AG DB SB O v tag W _ := by assumption
    go_wp2_with fail
    go_meet
    refine ⟨wu.heap.size, rfl, ⟨?_, ?_, ?_, ?_, ?_, ?_⟩, ?_, hbb⟩
    · go_simp
    · go_simp
    · go_simp
    · go_simp
    · go_simp
    · go_simp
    · exact hbU.size
  case rest =>
  obtain ⟨R, rfl, hC, hRW, hbW⟩ := hcut
  have hKc : Keeps (fun _ => False) w wc := HK.out.trans (Keeps.of_below hbW)
  have hIc := HI.out.keeps hKc (fun x => x) (fun x => x) (fun x => x) (fun x => x) (fun x => x)
  have a15 := hIc.a15
  have hRP : RP < w.heap.size := HI.out.rep.lt
  have hRAG : ¬ R = AG := by omega
  have hRRP : ¬ R = RP := by omega
  clear hO1 hbW HK
  go_wp2_with fail
  refine (wdeg_any AG ARC V WS RP na m me deg oth kn wt arcF viewF repF wc hIc hm hna hme hAR).mono ?_
  rintro e w3 ⟨rfl, hW⟩
  have c2 := hW.kp.cell (p := ⟨R, 2, none⟩) (by simp [hRAG, hRRP]) hC.c2
  have f2 : w3.frozen? ⟨R, 2, none⟩ = false := by
    rw [World.frozen?_of_block (w := wc) (a := ⟨R, 2, none⟩) (hW.kp.block R (World.block_lt_of_cell? _ _ hC.c2) (by simp [hRAG, hRRP]))]
    exact hC.free
  obtain ⟨D, hDe⟩ : ∃ D, D = wdVal deg (sumTo kn oth wt m) := ⟨_, rfl⟩
  have HD : Hid (D = wdVal deg (sumTo kn oth wt m)) := hDe
  rw [← hDe] at hW ⊢
  clear hDe
  go_wp2
  go_ret
  rw [← HD.out]
  have hp : ∀ i, i ≠ 2 → (w3.setCell ⟨R, 2, none⟩ (.int .i64 D)).cell? ⟨R, i, none⟩ = w3.cell? ⟨R, i, none⟩ := fun i hi => by rw [cell_setCell w3 R 2 i _ (by rw [c2]; rfl), if_neg hi]
  have hk : ∀ {i : Nat} {u : Value}, wc.cell? ⟨R, i, none⟩ = some u → w3.cell? ⟨R, i, none⟩ = some u := fun h => hW.kp.cell (by simp [hRAG, hRRP]) h
  refine ⟨R, rfl, ⟨(hp 0 (by decide)).trans (hk hC.c0), ?_, (hp 3 (by decide)).trans (hk hC.c3), (hp 4 (by decide)).trans (hk hC.c4), (hp 5 (by decide)).trans (hk hC.c5), ?_⟩, by omega, ?_, hW.rep.other (fun h => hRRP h.symm) _, ?_⟩
  · rw [cell_setCell w3 R 2 2 _ (by rw [c2]; rfl), if_pos rfl]
  · rw [World.frozen?_setCell]; exact f2
  · exact (World.cell?_of_block (w := w3) (a := ⟨AG, 16, none⟩) (Below.heap_setCell _ _ _ _ (fun h => hRAG h.symm))).trans hW.a16
  · exact ((hKc.weak (fun _ h => h.elim)).trans hW.kp).setNew (by show w.heap.size ≤ R; omega) _
end Go.Proofs.Ybulkclmc
