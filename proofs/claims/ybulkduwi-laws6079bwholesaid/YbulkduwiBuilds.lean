/-
  This program's struct literals: what they hold, said of the cells that are read.
-/
import Derived.Test.YbulkduwiFacts
namespace Go.Proofs.Ybulkduwi
open Go.RowKit

theorem fill_nil {place : Nat → Option (Nat × Nat)} {z : Array Value} : Instr.fill place z [] = some z := rfl

/-- An Entry's literal. -/
theorem build44 : ∃ f : Int → Int → Array Value → Array Value → Array Value, ∀ g e c m, c.size = 32 → m.size = 32 → Ones c → Ones m →
    (∀ W, (rowBuild 44 #[(10, .int .u64 g), (11, .int .u64 e), (12, .agg c), (6, .agg m)]).run Yba.prog W = .ok (.agg (f g e c m)) W) ∧
    (f g e c m).size = 489 ∧ (f g e c m)[389]? = some (.int .u64 g) ∧ (f g e c m)[390]? = some (.int .u64 e) ∧ cut (f g e c m) 391 32 = c ∧ cut (f g e c m) 99 32 = m ∧ Ones (f g e c m) := by
  obtain ⟨z, zs, hz, z1⟩ := zero44
  refine ⟨fun g e c m => spl (spl (spl (spl z 389 #[.int .u64 g]) 390 #[.int .u64 e]) 391 c) 99 m, fun g e c m hc hm c1 m1 => ?_⟩
  have s1 : (spl z 389 #[.int .u64 g]).size = 489 := by rw [size_spl, zs]
  have s2 : (spl (spl z 389 #[.int .u64 g]) 390 #[.int .u64 e]).size = 489 := by rw [size_spl, s1]
  have s3 : (spl (spl (spl z 389 #[.int .u64 g]) 390 #[.int .u64 e]) 391 c).size = 489 := by rw [size_spl, s2]
  refine ⟨fun W => ?_, by rw [size_spl, s3], ?_, ?_, ?_, ?_, ?_⟩
  · refine build_run (pl := #[(0, 1), (1, 1), (2, 32), (34, 32), (66, 32), (98, 1), (99, 32), (131, 32), (163, 1), (164, 225), (389, 1), (390, 1), (391, 32), (423, 1), (424, 1), (425, 64)]) hz Yba.underlying44 (fun W => by kernel_rfl) ?_ W
    show Instr.fill _ z [(10, .int .u64 g), (11, .int .u64 e), (12, .agg c), (6, .agg m)] = _
    rw [fill_step (off := 389) (n := 1) rfl rfl (by omega), fill_step (off := 390) (n := 1) rfl rfl (by rw [size_spl]; omega), fill_step (off := 391) (n := 32) (v := .agg c) rfl hc (by rw [size_spl, size_spl]; omega), fill_step (off := 99) (n := 32) (v := .agg m) rfl hm (by rw [size_spl, size_spl, size_spl]; omega)]
    rfl
  · rw [spl_out _ _ _ _ (by omega) (by omega), spl_out _ _ _ _ (by omega) (by omega), spl_out _ _ _ _ (by simp; omega) (by simp), spl_in _ _ _ _ (by simp; omega) (by omega) (by simp)]; rfl
  · rw [spl_out _ _ _ _ (by omega) (by omega), spl_out _ _ _ _ (by omega) (by omega), spl_in _ _ _ _ (by simp; omega) (by omega) (by simp)]; rfl
  · rw [cut_spl_out _ _ _ _ _ (by omega) (by omega) (by omega), cut_spl_in _ _ _ _ hc (by omega)]
  · rw [cut_spl_in _ _ _ _ hm (by omega)]
  · exact (((z1.spl (Ones.one rfl) (by simp; omega)).spl (Ones.one rfl) (by simp; omega)).spl c1 (by omega)).spl m1 (by omega)

/-- A Member's literal: it is only laid into the map. -/
theorem build36 : ∃ f : Int → Array Value, ∀ x W, (rowBuild 36 #[(2, .int .u64 x)]).run Yba.prog W = .ok (.agg (f x)) W := by
  obtain ⟨z, zs, hz, z1⟩ := zero36
  refine ⟨fun x => spl z 33 #[.int .u64 x], fun x W => ?_⟩
  refine build_run (pl := #[(0, 32), (32, 1), (33, 1), (34, 225)]) hz Yba.underlying36 (fun W => by kernel_rfl) ?_ W
  show Instr.fill _ z [(2, .int .u64 x)] = _
  rw [fill_step (off := 33) (n := 1) rfl rfl (by omega)]
  rfl

/-- An Accepted's literal. -/
theorem build56 : ∃ f : Int → Int → Array Value, ∀ g e, (∀ W, (rowBuild 56 #[(0, .int .u64 g), (1, .int .u64 e)]).run Yba.prog W = .ok (.agg (f g e)) W) ∧ (f g e).size = 34 ∧ Ones (f g e) := by
  obtain ⟨z, zs, hz, z1⟩ := zero56
  refine ⟨fun g e => spl (spl z 0 #[.int .u64 g]) 1 #[.int .u64 e], fun g e => ⟨fun W => ?_, by rw [size_spl, size_spl, zs], (z1.spl (Ones.one rfl) (by simp; omega)).spl (Ones.one rfl) (by simp [size_spl]; omega)⟩⟩
  refine build_run (pl := #[(0, 1), (1, 1), (2, 32)]) hz Yba.underlying56 (fun W => by kernel_rfl) ?_ W
  show Instr.fill _ z [(0, .int .u64 g), (1, .int .u64 e)] = _
  rw [fill_step (off := 0) (n := 1) rfl rfl (by omega), fill_step (off := 1) (n := 1) rfl rfl (by rw [size_spl]; omega)]
  rfl

/-- A Pending's literal. -/
theorem build58 : ∃ f : Int → Int → Array Value → Array Value → Int → Array Value, ∀ g e c m n, c.size = 32 → m.size = 32 → Ones c → Ones m →
    (∀ W, (rowBuild 58 #[(0, .int .u64 g), (1, .int .u64 e), (2, .agg c), (3, .agg m), (4, .int .i64 n)]).run Yba.prog W = .ok (.agg (f g e c m n)) W) ∧ (f g e c m n).size = 67 ∧ Ones (f g e c m n) ∧
    (f g e c m n)[0]? = some (.int .u64 g) ∧ (f g e c m n)[1]? = some (.int .u64 e) ∧ cut (f g e c m n) 2 32 = c ∧ cut (f g e c m n) 34 32 = m ∧ (f g e c m n)[66]? = some (.int .i64 n) := by
  obtain ⟨z, zs, hz, z1⟩ := zero58
  refine ⟨fun g e c m n => spl (spl (spl (spl (spl z 0 #[.int .u64 g]) 1 #[.int .u64 e]) 2 c) 34 m) 66 #[.int .i64 n], fun g e c m n hc hm c1 m1 => ?_⟩
  have s1 : (spl z 0 #[.int .u64 g]).size = 67 := by rw [size_spl, zs]
  have s2 : (spl (spl z 0 #[.int .u64 g]) 1 #[.int .u64 e]).size = 67 := by rw [size_spl, s1]
  have s3 : (spl (spl (spl z 0 #[.int .u64 g]) 1 #[.int .u64 e]) 2 c).size = 67 := by rw [size_spl, s2]
  have s4 : (spl (spl (spl (spl z 0 #[.int .u64 g]) 1 #[.int .u64 e]) 2 c) 34 m).size = 67 := by rw [size_spl, s3]
  refine ⟨fun W => ?_, by rw [size_spl, s4], ?_, ?_, ?_, ?_, ?_, ?_⟩
  · refine build_run (pl := #[(0, 1), (1, 1), (2, 32), (34, 32), (66, 1)]) hz Yba.underlying58 (fun W => by kernel_rfl) ?_ W
    show Instr.fill _ z [(0, .int .u64 g), (1, .int .u64 e), (2, .agg c), (3, .agg m), (4, .int .i64 n)] = _
    rw [fill_step (off := 0) (n := 1) rfl rfl (by omega), fill_step (off := 1) (n := 1) rfl rfl (by rw [size_spl]; omega), fill_step (off := 2) (n := 32) (v := .agg c) rfl hc (by rw [size_spl, size_spl]; omega), fill_step (off := 34) (n := 32) (v := .agg m) rfl hm (by rw [size_spl, size_spl, size_spl]; omega),
      fill_step (off := 66) (n := 1) rfl rfl (by rw [size_spl, size_spl, size_spl, size_spl]; omega)]
    rfl
  · exact ((((z1.spl (Ones.one rfl) (by simp; omega)).spl (Ones.one rfl) (by simp; omega)).spl c1 (by omega)).spl m1 (by omega)).spl (Ones.one rfl) (by simp; omega)
  · rw [spl_out _ _ _ _ (by simp; omega) (by omega), spl_out _ _ _ _ (by omega) (by omega), spl_out _ _ _ _ (by omega) (by omega), spl_out _ _ _ _ (by simp; omega) (by omega), spl_in _ _ _ _ (by simp; omega) (by omega) (by simp)]; rfl
  · rw [spl_out _ _ _ _ (by simp; omega) (by omega), spl_out _ _ _ _ (by omega) (by omega), spl_out _ _ _ _ (by omega) (by omega), spl_in _ _ _ _ (by simp; omega) (by omega) (by simp)]; rfl
  · rw [cut_spl_out _ _ _ _ _ (by simp; omega) (by omega) (by omega), cut_spl_out _ _ _ _ _ (by omega) (by omega) (by omega), cut_spl_in _ _ _ _ hc (by omega)]
  · rw [cut_spl_out _ _ _ _ _ (by simp; omega) (by omega) (by omega), cut_spl_in _ _ _ _ hm (by omega)]
  · rw [spl_in _ _ _ _ (by simp; omega) (by omega) (by simp)]; rfl

/-- A Status's literal. -/
theorem build53 : ∃ f : Int → Int → Int → Array Value → Array Value, ∀ e n p h, h.size = 32 → Ones h →
    (∀ W, (rowBuild 53 #[(0, .int .u64 e), (1, .int .i64 n), (2, .int .u64 p), (5, .agg h)]).run Yba.prog W = .ok (.agg (f e n p h)) W) ∧ (f e n p h).size = 37 ∧ Ones (f e n p h) ∧
    (f e n p h)[0]? = some (.int .u64 e) ∧ (f e n p h)[1]? = some (.int .i64 n) ∧ (f e n p h)[2]? = some (.int .u64 p) ∧ (f e n p h)[3]? = some (.pointer none) ∧ (f e n p h)[4]? = some (.pointer none) ∧ cut (f e n p h) 5 32 = h := by
  obtain ⟨z, ⟨zs, hz, z1⟩, z3, z4⟩ := zero53
  refine ⟨fun e n p h => spl (spl (spl (spl z 0 #[.int .u64 e]) 1 #[.int .i64 n]) 2 #[.int .u64 p]) 5 h, fun e n p h hh h1 => ?_⟩
  have s1 : (spl z 0 #[.int .u64 e]).size = 37 := by rw [size_spl, zs]
  have s2 : (spl (spl z 0 #[.int .u64 e]) 1 #[.int .i64 n]).size = 37 := by rw [size_spl, s1]
  have s3 : (spl (spl (spl z 0 #[.int .u64 e]) 1 #[.int .i64 n]) 2 #[.int .u64 p]).size = 37 := by rw [size_spl, s2]
  refine ⟨fun W => ?_, by rw [size_spl, s3], ?_, ?_, ?_, ?_, ?_, ?_, ?_⟩
  · refine build_run (pl := #[(0, 1), (1, 1), (2, 1), (3, 1), (4, 1), (5, 32)]) hz Yba.underlying53 (fun W => by kernel_rfl) ?_ W
    show Instr.fill _ z [(0, .int .u64 e), (1, .int .i64 n), (2, .int .u64 p), (5, .agg h)] = _
    rw [fill_step (off := 0) (n := 1) rfl rfl (by omega), fill_step (off := 1) (n := 1) rfl rfl (by rw [size_spl]; omega), fill_step (off := 2) (n := 1) rfl rfl (by rw [size_spl, size_spl]; omega), fill_step (off := 5) (n := 32) (v := .agg h) rfl hh (by rw [size_spl, size_spl, size_spl]; omega)]
    rfl
  · exact (((z1.spl (Ones.one rfl) (by simp; omega)).spl (Ones.one rfl) (by simp; omega)).spl (Ones.one rfl) (by simp; omega)).spl h1 (by omega)
  · rw [spl_out _ _ _ _ (by omega) (by omega), spl_out _ _ _ _ (by simp; omega) (by omega), spl_out _ _ _ _ (by simp; omega) (by omega), spl_in _ _ _ _ (by simp; omega) (by omega) (by simp)]; rfl
  · rw [spl_out _ _ _ _ (by omega) (by omega), spl_out _ _ _ _ (by simp; omega) (by omega), spl_in _ _ _ _ (by simp; omega) (by omega) (by simp)]; rfl
  · rw [spl_out _ _ _ _ (by omega) (by omega), spl_in _ _ _ _ (by simp; omega) (by omega) (by simp)]; rfl
  · rw [spl_out _ _ _ _ (by omega) (by omega), spl_out _ _ _ _ (by simp; omega) (by simp), spl_out _ _ _ _ (by simp; omega) (by simp), spl_out _ _ _ _ (by simp; omega) (by simp)]; exact z3
  · rw [spl_out _ _ _ _ (by omega) (by omega), spl_out _ _ _ _ (by simp; omega) (by simp), spl_out _ _ _ _ (by simp; omega) (by simp), spl_out _ _ _ _ (by simp; omega) (by simp)]; exact z4
  · rw [cut_spl_in _ _ _ _ hh (by omega)]

/-- A State's literal. -/
theorem build49 : ∃ f : Int → Int → Array Value → Value → Value → Value → Value → Array Value, ∀ e p h mb ac pr an, h.size = 32 → Ones h → mb.cells = #[mb] → ac.cells = #[ac] → pr.cells = #[pr] → an.cells = #[an] →
    (∀ W, (rowBuild 49 #[(5, .int .u64 e), (7, .int .u64 p), (1, .agg h), (8, mb), (11, ac), (13, pr), (14, an)]).run Yba.prog W = .ok (.agg (f e p h mb ac pr an)) W) ∧ (f e p h mb ac pr an).size = 108 ∧
    (f e p h mb ac pr an)[98]? = some (.int .u64 e) ∧ (f e p h mb ac pr an)[100]? = some (.int .u64 p) ∧ cut (f e p h mb ac pr an) 1 32 = h ∧ (f e p h mb ac pr an)[101]? = some mb ∧ (f e p h mb ac pr an)[104]? = some ac ∧
    (f e p h mb ac pr an)[106]? = some pr ∧ (f e p h mb ac pr an)[107]? = some an := by
  obtain ⟨z, zs, hz, z1⟩ := zero49
  refine ⟨fun e p h mb ac pr an => spl (spl (spl (spl (spl (spl (spl z 98 #[.int .u64 e]) 100 #[.int .u64 p]) 1 h) 101 #[mb]) 104 #[ac]) 106 #[pr]) 107 #[an], fun e p h mb ac pr an hh h1 c1 c2 c3 c4 => ?_⟩
  have s1 : (spl z 98 #[.int .u64 e]).size = 108 := by rw [size_spl, zs]
  have s2 : (spl (spl z 98 #[.int .u64 e]) 100 #[.int .u64 p]).size = 108 := by rw [size_spl, s1]
  have s3 : (spl (spl (spl z 98 #[.int .u64 e]) 100 #[.int .u64 p]) 1 h).size = 108 := by rw [size_spl, s2]
  have s4 : (spl (spl (spl (spl z 98 #[.int .u64 e]) 100 #[.int .u64 p]) 1 h) 101 #[mb]).size = 108 := by rw [size_spl, s3]
  have s5 : (spl (spl (spl (spl (spl z 98 #[.int .u64 e]) 100 #[.int .u64 p]) 1 h) 101 #[mb]) 104 #[ac]).size = 108 := by rw [size_spl, s4]
  have s6 : (spl (spl (spl (spl (spl (spl z 98 #[.int .u64 e]) 100 #[.int .u64 p]) 1 h) 101 #[mb]) 104 #[ac]) 106 #[pr]).size = 108 := by rw [size_spl, s5]
  refine ⟨fun W => ?_, by rw [size_spl, s6], ?_, ?_, ?_, ?_, ?_, ?_, ?_⟩
  · refine build_run (pl := #[(0, 1), (1, 32), (33, 32), (65, 32), (97, 1), (98, 1), (99, 1), (100, 1), (101, 1), (102, 1), (103, 1), (104, 1), (105, 1), (106, 1), (107, 1)]) hz Yba.underlying49 (fun W => by kernel_rfl) ?_ W
    show Instr.fill _ z [(5, .int .u64 e), (7, .int .u64 p), (1, .agg h), (8, mb), (11, ac), (13, pr), (14, an)] = _
    rw [fill_step (off := 98) (n := 1) rfl rfl (by omega), fill_step (off := 100) (n := 1) rfl rfl (by rw [size_spl]; omega), fill_step (off := 1) (n := 32) (v := .agg h) rfl hh (by rw [size_spl, size_spl]; omega), fill_step (off := 101) (n := 1) rfl (by rw [c1]; rfl) (by rw [size_spl, size_spl, size_spl]; omega),
      fill_step (off := 104) (n := 1) rfl (by rw [c2]; rfl) (by rw [size_spl, size_spl, size_spl, size_spl]; omega), fill_step (off := 106) (n := 1) rfl (by rw [c3]; rfl) (by rw [size_spl, size_spl, size_spl, size_spl, size_spl]; omega),
      fill_step (off := 107) (n := 1) rfl (by rw [c4]; rfl) (by rw [size_spl, size_spl, size_spl, size_spl, size_spl, size_spl]; omega), c1, c2, c3, c4]
    rfl
  · rw [spl_out _ _ _ _ (by simp; omega) (by omega), spl_out _ _ _ _ (by simp; omega) (by omega), spl_out _ _ _ _ (by simp; omega) (by omega), spl_out _ _ _ _ (by simp; omega) (by omega), spl_out _ _ _ _ (by omega) (by omega), spl_out _ _ _ _ (by simp; omega) (by omega), spl_in _ _ _ _ (by simp; omega) (by omega) (by simp)]; rfl
  · rw [spl_out _ _ _ _ (by simp; omega) (by omega), spl_out _ _ _ _ (by simp; omega) (by omega), spl_out _ _ _ _ (by simp; omega) (by omega), spl_out _ _ _ _ (by simp; omega) (by omega), spl_out _ _ _ _ (by omega) (by omega), spl_in _ _ _ _ (by simp; omega) (by omega) (by simp)]; rfl
  · rw [cut_spl_out _ _ _ _ _ (by simp; omega) (by omega) (by simp), cut_spl_out _ _ _ _ _ (by simp; omega) (by omega) (by simp), cut_spl_out _ _ _ _ _ (by simp; omega) (by omega) (by simp), cut_spl_out _ _ _ _ _ (by simp; omega) (by omega) (by simp), cut_spl_in _ _ _ _ hh (by omega)]
  · rw [spl_out _ _ _ _ (by simp; omega) (by omega), spl_out _ _ _ _ (by simp; omega) (by omega), spl_out _ _ _ _ (by simp; omega) (by omega), spl_in _ _ _ _ (by simp; omega) (by omega) (by simp)]; rfl
  · rw [spl_out _ _ _ _ (by simp; omega) (by omega), spl_out _ _ _ _ (by simp; omega) (by omega), spl_in _ _ _ _ (by simp; omega) (by omega) (by simp)]; rfl
  · rw [spl_out _ _ _ _ (by simp; omega) (by omega), spl_in _ _ _ _ (by simp; omega) (by omega) (by simp)]; rfl
  · rw [spl_in _ _ _ _ (by simp; omega) (by omega) (by simp)]; rfl
end Go.Proofs.Ybulkduwi
