/- FnVhdFooter: what the program lays and what the reference lays are the same bytes. -/
import Derived.Test.YtjpahogldfmaeabVdWalk
namespace Go.Proofs.Ytjpahogldfmaeab
open Go.RowKit Go.Rd
set_option linter.unusedVariables false

theorem be64_at (z : Int) (h1 : 0 ≤ z) (h2 : z < 18446744073709551616) : be64 z = [beAt 8 z 0, beAt 8 z 1, beAt 8 z 2, beAt 8 z 3, beAt 8 z 4, beAt 8 z 5, beAt 8 z 6, beAt 8 z 7] := by
  unfold be64 be32 beAt
  simp only [List.cons_append, List.nil_append, List.cons.injEq, and_true]
  refine ⟨?_, ?_, ?_, ?_, ?_, ?_, ?_, ?_⟩
  · show _ = z / 72057594037927936 % 256; omega
  · show _ = z / 281474976710656 % 256; omega
  · show _ = z / 1099511627776 % 256; omega
  · show _ = z / 4294967296 % 256; omega
  · show _ = z / 16777216 % 256; omega
  · show _ = z / 65536 % 256; omega
  · show _ = z / 256 % 256; omega
  · show _ = z / 1 % 256; omega
theorem be32_at (c : Int) (h1 : 0 ≤ c) (h2 : c ≤ 4294967295) : be32 c = [beAt 4 c 0, beAt 4 c 1, beAt 4 c 2, beAt 4 c 3] := by
  unfold be32 beAt
  simp only [List.cons.injEq, and_true]
  refine ⟨?_, ?_, ?_, ?_⟩
  · show _ = c / 16777216 % 256; omega
  · show _ = c / 65536 % 256; omega
  · show _ = c / 256 % 256; omega
  · show _ = c / 1 % 256; omega
/-- A footer's bytes, of its parts. -/
def footG (zz cc u : List Int) : List Int := (((((((((((((((cook ++ be32 2) ++ be32 65536) ++ be64 m64) ++ be32 0) ++ [0, 0, 0, 0]) ++ be32 655360) ++ [0, 0, 0, 0]) ++ zz) ++ zz) ++ be32 0) ++ be32 2) ++ cc) ++ u) ++ [0]) ++ List.replicate 427 0)
theorem footB_G (z chk : Int) (u : List Int) : footB cook z chk u = footG (be64 z) (be32 chk) u := rfl
set_option maxRecDepth 100000 in
theorem specB_rfl (z x0 x1 x2 x3 x4 x5 x6 x7 x8 x9 x10 x11 x12 x13 x14 x15 : Int) : specB z [x0, x1, x2, x3, x4, x5, x6, x7, x8, x9, x10, x11, x12, x13, x14, x15] = footG [beAt 8 z 0, beAt 8 z 1, beAt 8 z 2, beAt 8 z 3, beAt 8 z 4, beAt 8 z 5, beAt 8 z 6, beAt 8 z 7] [0, 0, 0, 0] [x0, x1, x2, x3, x4, x5, x6, x7, x8, x9, x10, x11, x12, x13, x14, x15] := by kernel_rfl
set_option maxRecDepth 100000 in
theorem specC_rfl (z c x0 x1 x2 x3 x4 x5 x6 x7 x8 x9 x10 x11 x12 x13 x14 x15 : Int) : specC z c [x0, x1, x2, x3, x4, x5, x6, x7, x8, x9, x10, x11, x12, x13, x14, x15] = footG [beAt 8 z 0, beAt 8 z 1, beAt 8 z 2, beAt 8 z 3, beAt 8 z 4, beAt 8 z 5, beAt 8 z 6, beAt 8 z 7] [beAt 4 c 0, beAt 4 c 1, beAt 4 c 2, beAt 4 c 3] [x0, x1, x2, x3, x4, x5, x6, x7, x8, x9, x10, x11, x12, x13, x14, x15] := by kernel_rfl
theorem specB_eq (z : Int) (u : List Int) (h1 : 0 ≤ z) (h2 : z < 18446744073709551616) (hu : u.length = 16) : specB z u = footB cook z 0 u := by
  rw [footB_G, be64_at z h1 h2]
  match u, hu with
  | [x0, x1, x2, x3, x4, x5, x6, x7, x8, x9, x10, x11, x12, x13, x14, x15], _ => exact specB_rfl z x0 x1 x2 x3 x4 x5 x6 x7 x8 x9 x10 x11 x12 x13 x14 x15
theorem specC_eq (z c : Int) (u : List Int) (h1 : 0 ≤ z) (h2 : z < 18446744073709551616) (h3 : 0 ≤ c) (h4 : c ≤ 4294967295) (hu : u.length = 16) : specC z c u = footB cook z c u := by
  rw [footB_G, be64_at z h1 h2, be32_at c h3 h4]
  match u, hu with
  | [x0, x1, x2, x3, x4, x5, x6, x7, x8, x9, x10, x11, x12, x13, x14, x15], _ => exact specC_rfl z c x0 x1 x2 x3 x4 x5 x6 x7 x8 x9 x10 x11 x12 x13 x14 x15
end Go.Proofs.Ytjpahogldfmaeab
