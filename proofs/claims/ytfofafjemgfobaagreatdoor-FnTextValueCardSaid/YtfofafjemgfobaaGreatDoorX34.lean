/- Parts of a proof, joined: A26, V3, B45, S5v. -/
import Derived.Test.YtfofafjemgfobaaGreatDoorX33
import Derived.Test.YtfofafjemgfobaaGreatDoorX4
import Derived.Test.YtfofafjemgfobaaGreatDoorX31
import Derived.Test.YtfofafjemgfobaaGreatDoorXS5
set_option linter.unusedVariables false
namespace Go.Proofs.Tryz
open Go.Vc Go.RowKit Go.Sort
def In171 (dst : Option Addr) (dst_n dst_c : Nat) (neg : Bool) (fmt prec mantBits bias exp mant : Int) (w5 : World) (R : Value → World → Prop) : Prop :=
  (∃ x87 : Int, IntKind.i64.wrap (exp + bias) = x87 ∧ 
        (decide (fmt = 98) = true →
        ∃ x95 : Int, IntKind.i64.wrap (x87 - mantBits) = x95 ∧ 
          Calls prog 219 ⟨[.slice dst dst_n dst_c, .bool neg, .int .u64 mant, .int .i64 x95]⟩ w5 fun e w6 => ∃ (x96 : Option Addr) (x96_n x96_c : Nat), e = .returned (.slice x96 x96_n x96_c) ∧ 
          R (.slice x96 x96_n x96_c) w6) ∧ (decide (fmt = 98) = false →
        ∀ Kx_2 : Bool → World → Prop, (∀ x102 : Bool, ∀ w7,
          ((x102 = true →
            Calls prog 220 ⟨[.slice dst dst_n dst_c, .int .i64 prec, .int .u8 fmt, .bool neg, .int .u64 mant, .int .i64 x87, .int .i64 mantBits]⟩ w7 fun e w8 => ∃ (x110 : Option Addr) (x110_n x110_c : Nat), e = .returned (.slice x110 x110_n x110_c) ∧ 
              R (.slice x110 x110_n x110_c) w8) ∧ (x102 = false →
            (decide (mant = 0) = true →
              Calls prog 221 ⟨[.slice dst dst_n dst_c, .bool neg, .slice none 0 0, .int .i64 0, .int .i64 0, .int .i64 prec, .int .u8 fmt, .bool (decide (prec < 0))]⟩ w7 fun e w9 => ∃ (x119 : Option Addr) (x119_n x119_c : Nat), e = .returned (.slice x119 x119_n x119_c) ∧ 
                R (.slice x119 x119_n x119_c) w9) ∧ (decide (mant = 0) = false →
              (decide (prec < 0) = true →
                ∀ w10, w10 = w7.alloc (.cells ⟨[.int .u8 0, .int .u8 0, .int .u8 0, .int .u8 0, .int .u8 0, .int .u8 0, .int .u8 0, .int .u8 0, .int .u8 0, .int .u8 0, .int .u8 0, .int .u8 0, .int .u8 0, .int .u8 0, .int .u8 0, .int .u8 0, .int .u8 0, .int .u8 0, .int .u8 0, .int .u8 0, .int .u8 0, .int .u8 0, .int .u8 0, .int .u8 0, .int .u8 0, .int .u8 0, .int .u8 0, .int .u8 0, .int .u8 0, .int .u8 0, .int .u8 0, .int .u8 0]⟩ 294) → 
                  Calls prog 173 ⟨[.int .u64 mant]⟩ w10 fun e w11 => ∃ x123 : Int, e = .returned (.int .i64 x123) ∧ 
                  ∃ x124 : Int, IntKind.i64.wrap (64 - x123) = x124 ∧ 
                  (0 : Int) ≤ x124 ∧ ∃ x127 : Int, IntKind.u64.wrap (mant * 2 ^ (min x124.toNat 64)) = x127 ∧ 
                  ∃ x130 : Int, IntKind.i64.wrap (x87 - x124) = x130 ∧ 
                  ∃ x135 : Int, IntKind.i64.wrap (x130 - mantBits) = x135 ∧ 
                  Calls prog 228 ⟨[.int .u64 x127, .int .i64 x135]⟩ w11 fun e w12 => ∃ x136 : Int, ∃ x136_1 : Int, e = .returned (.tuple ⟨[.int .u64 x136, .int .i64 x136_1]⟩) ∧ 
                  ∃ f : List (Addr × Value), Kept w12 f ∧
                  Calls prog 119 ⟨[.int .u64 x136]⟩ w12.drew fun e w13 => ∃ x144 : Int, e = .returned (.int .i64 x144) ∧ 
                  Calls prog 223 ⟨[.slice (some (⟨w7.heap.size, 0, none⟩)) 32 32, .int .u64 x136, .int .i64 x136_1, .int .i64 x144]⟩ w13 fun e w14 => ∃ x145 : Int, ∃ x145_1 : Int, e = .returned (.tuple ⟨[.int .i64 x145, .int .i64 x145_1]⟩) ∧ 
                  ∀ Kx_3 : Int → World → Prop, (∀ prec_1 : Int, ∀ w15,
                  (Calls prog 221 ⟨[.slice dst dst_n dst_c, .bool neg, .slice (some (⟨w7.heap.size, 0, none⟩)) 32 32, .int .i64 x145, .int .i64 x145_1, .int .i64 prec_1, .int .u8 fmt, .bool true]⟩ w15 fun e w16 => ∃ (x172 : Option Addr) (x172_n x172_c : Nat), e = .returned (.slice x172 x172_n x172_c) ∧ 
                    R (.slice x172 x172_n x172_c) w16) → Kx_3 prec_1 w15) →
                  ∀ Kx_4 : Bool → World → Prop, (∀ x149 : Bool, ∀ w17,
                  ((x149 = true →
                    ∃ x153 : Int, IntKind.i64.wrap (x145_1 - 1) = x153 ∧ 
                      ∃ x154 : Int, (if (0 : Int) > x153 then 0 else x153) = x154 ∧ 
                      Kx_3 x154 w17) ∧ (x149 = false →
                    (decide (fmt = 102) = true →
                      ∃ x159 : Int, IntKind.i64.wrap (x145_1 - x145) = x159 ∧ 
                        ∃ x160 : Int, (if (0 : Int) > x159 then 0 else x159) = x160 ∧ 
                        Kx_3 x160 w17) ∧ (decide (fmt = 102) = false →
                      (decide (fmt = 103) = true →
                        (decide (fmt = 103) = true →
                          Kx_3 x145_1 w17) ∧ (decide (fmt = 103) = false →
                          Kx_3 prec w17)) ∧ (decide (fmt = 103) = false →
                        (decide (fmt = 71) = true →
                          Kx_3 x145_1 w17) ∧ (decide (fmt = 71) = false →
                          Kx_3 prec w17))))) → Kx_4 x149 w17) →
                  (decide (fmt = 101) = true →
                  Kx_4 (decide (fmt = 101)) w14) ∧ (decide (fmt = 101) = false →
                  Kx_4 (decide (fmt = 69)) w14)) ∧ (decide (prec < 0) = false →
                ∀ Kx_5 : Int → World → Prop, (∀ prec_2 : Int, ∀ w18,
                  (∀ w19, w19 = w18.alloc (.cells ((zeros prog 302).getD #[]) 302) → 
                    Calls prog 225 ⟨[.pointer (some (⟨w18.heap.size, 0, none⟩)), .int .u64 mant]⟩ w19 fun e w20 => e = .returned (.tuple ⟨[]⟩) ∧ 
                    ∃ x253 : Int, IntKind.i64.wrap (x87 - mantBits) = x253 ∧ 
                    Calls prog 226 ⟨[.pointer (some (⟨w18.heap.size, 0, none⟩)), .int .i64 x253]⟩ w20 fun e w21 => e = .returned (.tuple ⟨[]⟩) ∧ 
                    ∀ Kx_6 : Int → World → Prop, (∀ prec_3 : Int, ∀ w22,
                    (∃ f_1 : List (Addr × Value), Kept w22 f_1 ∧
                      ∃ x290 : Int, (⟨w18.heap.size, 801, none⟩, .int .i64 x290) ∈ f_1 ∧ 
                      ∃ x294 : Int, (⟨w18.heap.size, 800, none⟩, .int .i64 x294) ∈ f_1 ∧ 
                      Calls prog 221 ⟨[.slice dst dst_n dst_c, .bool neg, .slice (some (⟨w18.heap.size, 0, none⟩)) 800 800, .int .i64 x290, .int .i64 x294, .int .i64 prec_3, .int .u8 fmt, .bool false]⟩ w22.drew fun e w23 => ∃ (x297 : Option Addr) (x297_n x297_c : Nat), e = .returned (.slice x297 x297_n x297_c) ∧ 
                      R (.slice x297 x297_n x297_c) w23) → Kx_6 prec_3 w22) →
                    ∀ Kx_7 : Bool → World → Prop, (∀ x256 : Bool, ∀ w24,
                    ((x256 = true →
                      ∃ x261 : Int, IntKind.i64.wrap (prec_2 + 1) = x261 ∧ 
                        Calls prog 227 ⟨[.pointer (some (⟨w18.heap.size, 0, none⟩)), .int .i64 x261]⟩ w24 fun e w25 => e = .returned (.tuple ⟨[]⟩) ∧ 
                        Kx_6 prec_2 w25) ∧ (x256 = false →
                      (decide (fmt = 102) = true →
                        ∃ x269 : Int, w24.cell? ⟨w18.heap.size, 801, none⟩ = some (.int .i64 x269) ∧ 
                          ∃ x271 : Int, IntKind.i64.wrap (x269 + prec_2) = x271 ∧ 
                          Calls prog 227 ⟨[.pointer (some (⟨w18.heap.size, 0, none⟩)), .int .i64 x271]⟩ w24 fun e w26 => e = .returned (.tuple ⟨[]⟩) ∧ 
                          Kx_6 prec_2 w26) ∧ (decide (fmt = 102) = false →
                        ∀ Kx_8 : Bool → World → Prop, (∀ x273 : Bool, ∀ w27,
                          ((x273 = true →
                            (decide (prec_2 = 0) = true →
                              Calls prog 227 ⟨[.pointer (some (⟨w18.heap.size, 0, none⟩)), .int .i64 1]⟩ w27 fun e w28 => e = .returned (.tuple ⟨[]⟩) ∧ 
                                Kx_6 1 w28) ∧ (decide (prec_2 = 0) = false →
                              Calls prog 227 ⟨[.pointer (some (⟨w18.heap.size, 0, none⟩)), .int .i64 prec_2]⟩ w27 fun e w29 => e = .returned (.tuple ⟨[]⟩) ∧ 
                                Kx_6 prec_2 w29)) ∧ (x273 = false →
                            Kx_6 prec_2 w27)) → Kx_8 x273 w27) →
                          (decide (fmt = 103) = true →
                          Kx_8 (decide (fmt = 103)) w24) ∧ (decide (fmt = 103) = false →
                          Kx_8 (decide (fmt = 71)) w24)))) → Kx_7 x256 w24) →
                    (decide (fmt = 101) = true →
                    Kx_7 (decide (fmt = 101)) w21) ∧ (decide (fmt = 101) = false →
                    Kx_7 (decide (fmt = 69)) w21)) → Kx_5 prec_2 w18) →
                  ∃ x173 : Bool, w7.cell? ⟨7, 0, none⟩ = some (.bool x173) ∧ 
                  (x173 = true →
                  ∀ Kx_9 : Int → Int → World → Prop, (∀ prec_4 : Int, ∀ digits : Int, ∀ w30,
                    ((decide (digits ≤ 18) = true →
                      ∀ w31, w31 = w30.alloc (.cells ⟨[.int .u8 0, .int .u8 0, .int .u8 0, .int .u8 0, .int .u8 0, .int .u8 0, .int .u8 0, .int .u8 0, .int .u8 0, .int .u8 0, .int .u8 0, .int .u8 0, .int .u8 0, .int .u8 0, .int .u8 0, .int .u8 0, .int .u8 0, .int .u8 0, .int .u8 0, .int .u8 0, .int .u8 0, .int .u8 0, .int .u8 0, .int .u8 0]⟩ 174) → 
                        ∀ Kx_10 : Int → Int → World → Prop, (∀ dp : Int, ∀ nd : Int, ∀ w32,
                        (Calls prog 221 ⟨[.slice dst dst_n dst_c, .bool neg, .slice (some (⟨w30.heap.size, 0, none⟩)) 24 24, .int .i64 dp, .int .i64 nd, .int .i64 prec_4, .int .u8 fmt, .bool false]⟩ w32 fun e w33 => ∃ (x245 : Option Addr) (x245_n x245_c : Nat), e = .returned (.slice x245 x245_n x245_c) ∧ 
                          R (.slice x245 x245_n x245_c) w33) → Kx_10 dp nd w32) →
                        (decide (0 < digits) = true →
                        Calls prog 173 ⟨[.int .u64 mant]⟩ w31 fun e w34 => ∃ x208 : Int, e = .returned (.int .i64 x208) ∧ 
                          ∃ x209 : Int, IntKind.i64.wrap (64 - x208) = x209 ∧ 
                          (0 : Int) ≤ x209 ∧ ∃ x212 : Int, IntKind.u64.wrap (mant * 2 ^ (min x209.toNat 64)) = x212 ∧ 
                          ∃ x215 : Int, IntKind.i64.wrap (x87 - x209) = x215 ∧ 
                          ∃ x220 : Int, IntKind.i64.wrap (x215 - mantBits) = x220 ∧ 
                          Calls prog 224 ⟨[.int .u64 x212, .int .i64 x220, .int .i64 digits, .int .i64 prec_4, .int .u8 fmt]⟩ w34 fun e w35 => ∃ x224 : Int, ∃ x224_1 : Int, e = .returned (.tuple ⟨[.int .u64 x224, .int .i64 x224_1]⟩) ∧ 
                          ((!decide (x224 = 0)) = true →
                          ∃ f_2 : List (Addr × Value), Kept w35 f_2 ∧
                            Calls prog 119 ⟨[.int .u64 x224]⟩ w35.drew fun e w36 => ∃ x234 : Int, e = .returned (.int .i64 x234) ∧ 
                            Calls prog 223 ⟨[.slice (some (⟨w30.heap.size, 0, none⟩)) 24 24, .int .u64 x224, .int .i64 x224_1, .int .i64 x234]⟩ w36 fun e w37 => ∃ x235 : Int, ∃ x235_1 : Int, e = .returned (.tuple ⟨[.int .i64 x235, .int .i64 x235_1]⟩) ∧ 
                            Kx_10 x235 x235_1 w37) ∧ ((!decide (x224 = 0)) = false →
                          Kx_10 0 0 w35)) ∧ (decide (0 < digits) = false →
                        Kx_10 0 0 w31)) ∧ (decide (digits ≤ 18) = false →
                      Kx_5 prec_4 w30)) → Kx_9 prec_4 digits w30) →
                    (decide (fmt = 102) = true →
                    (decide (0 ≤ x87) = true →
                      ∃ x181 : Int, IntKind.i64.wrap (1 + x87) = x181 ∧ 
                        Calls prog 172 ⟨[.int .i64 x181]⟩ w7 fun e w38 => ∃ x182 : Int, e = .returned (.int .i64 x182) ∧ 
                        ∃ x183 : Int, IntKind.i64.wrap (1 + x182) = x183 ∧ 
                        ∃ x185 : Int, IntKind.i64.wrap (x183 + prec) = x185 ∧ 
                        Kx_9 prec x185 w38) ∧ (decide (0 ≤ x87) = false →
                      ∃ x187 : Int, IntKind.i64.wrap (1 + prec) = x187 ∧ 
                        ∃ x189 : Int, IntKind.i64.wrap (0 - x87) = x189 ∧ 
                        Calls prog 172 ⟨[.int .i64 x189]⟩ w7 fun e w39 => ∃ x190 : Int, e = .returned (.int .i64 x190) ∧ 
                        ∃ x191 : Int, IntKind.i64.wrap (x187 - x190) = x191 ∧ 
                        Kx_9 prec x191 w39)) ∧ (decide (fmt = 102) = false →
                    ∀ Kx_11 : Bool → World → Prop, (∀ x192 : Bool, ∀ w40,
                      ((x192 = true →
                        ∃ x196 : Int, IntKind.i64.wrap (prec + 1) = x196 ∧ 
                          Kx_9 prec x196 w40) ∧ (x192 = false →
                        ∀ Kx_12 : Bool → World → Prop, (∀ x197 : Bool, ∀ w41,
                          ((x197 = true →
                            (decide (prec = 0) = true →
                              Kx_9 1 1 w41) ∧ (decide (prec = 0) = false →
                              Kx_9 prec prec w41)) ∧ (x197 = false →
                            Kx_9 prec 1 w41)) → Kx_12 x197 w41) →
                          (decide (fmt = 103) = true →
                          Kx_12 (decide (fmt = 103)) w40) ∧ (decide (fmt = 103) = false →
                          Kx_12 (decide (fmt = 71)) w40))) → Kx_11 x192 w40) →
                      (decide (fmt = 101) = true →
                      Kx_11 (decide (fmt = 101)) w7) ∧ (decide (fmt = 101) = false →
                      Kx_11 (decide (fmt = 69)) w7))) ∧ (x173 = false →
                  Kx_5 prec w7))))) → Kx_2 x102 w7) →
          (decide (fmt = 120) = true →
          Kx_2 true w5) ∧ (decide (fmt = 120) = false →
          Kx_2 (decide (fmt = 88)) w5)))
theorem bitLen_bounds (x : Nat) (h0 : x ≠ 0) (h : x < 2 ^ 53) : 1 ≤ Lib.bitLen x ∧ Lib.bitLen x ≤ 53 := by
  obtain ⟨h1, h2, h3⟩ := Lib.bitLenAux_bounds 64 x (by omega) h0
  refine ⟨h1, ?_⟩
  show Lib.bitLenAux 64 x ≤ 53
  rcases Nat.lt_or_ge 53 (Lib.bitLenAux 64 x) with h4 | h4
  · have : 2 ^ 53 ≤ 2 ^ (Lib.bitLenAux 64 x - 1) := Nat.pow_le_pow_right (by decide) (by omega)
    omega
  · exact h4
theorem midE_len (l : List UInt8) (nd : Nat) (pr : Int) (hnd : nd ≤ 20) (hpr : pr ≤ 20) : (midE l nd pr).length ≤ 45 := by
  unfold midE
  simp only []
  repeat' split
  all_goals simp only [List.length_append, List.length_cons, List.length_nil, List.length_take, List.length_drop, List.length_replicate]
  all_goals omega
theorem fracF_len (l : List UInt8) (dp : Int) (nd : Nat) (pr : Int) (hnd : nd ≤ 20) (hd0 : -10 ≤ dp) (hd1 : dp ≤ 10) (h0 : 0 ≤ pr) (hpr : pr ≤ 30) : (fracF l dp nd pr).length ≤ 61 := by
  unfold fracF
  simp only []
  repeat' split
  all_goals simp only [List.length_append, List.length_take, List.length_replicate, List.length_cons, List.length_nil, List.length_drop]
  all_goals omega
theorem efgF_len (neg : Bool) (l : List UInt8) (dp : Int) (nd : Nat) (prec : Int) (hnd : nd ≤ 20) (hp1 : prec ≤ 20) (hd0 : -400 ≤ dp) (hd1 : dp ≤ 500) : (efgF neg l dp nd prec).length ≤ 100 := by
  have hsg : (signF neg).length ≤ 1 := by unfold signF; split <;> simp
  unfold efgF
  split
  · rename_i h
    unfold eF
    have h1 := midE_len l nd ((if (nd : Int) < prec then (nd : Int) else prec) - 1) hnd (by split <;> omega)
    have h2 := expF_len (0 - exE dp nd)
    have h3 := expF_len (exE dp nd)
    have h4 : (if exE dp nd < 0 then 45 :: expF (0 - exE dp nd) else 43 :: expF (exE dp nd) : List UInt8).length ≤ 4 := by split <;> simp only [List.length_cons] <;> omega
    simp only [List.length_append, List.length_cons, List.length_nil]
    omega
  · rename_i h
    unfold fF
    have h1 : (intF l dp nd).length ≤ 20 := by
      unfold intF
      split
      · simp only [List.length_append, List.length_take, List.length_replicate]
        split <;> omega
      · simp
    obtain ⟨q, hq, hq0, hq1⟩ : ∃ q, q = (if 0 > (if dp < prec then (nd : Int) - dp else prec - dp) then 0 else (if dp < prec then (nd : Int) - dp else prec - dp)) ∧ 0 ≤ q ∧ q ≤ 30 := by
      refine ⟨_, rfl, ?_, ?_⟩
      · repeat' split
        all_goals omega
      · repeat' split
        all_goals omega
    rw [← hq]
    have h3 := fracF_len l dp nd q hnd (by omega) (by omega) hq0 hq1
    simp only [List.length_append]
    omega
theorem expF_asc (e : Int) (h0 : 0 ≤ e) (h1 : e ≤ 600) : asc (expF e) := by
  obtain ⟨k, rfl⟩ : ∃ k : Nat, e = k := ⟨e.toNat, by omega⟩
  have key : (List.range 601).all (fun k => (expF (k : Nat)).all fun b => decide (b.toNat < 128)) = true := by decide +kernel
  exact asc_dec (List.all_eq_true.1 key k (List.mem_range.2 (by omega)))
theorem signF_asc (neg : Bool) : asc (signF neg) := by cases neg <;> exact asc_dec (by decide)
theorem digN_asc (u nd : Nat) : asc (digN u nd) := by
  intro b hb
  obtain ⟨t, _, rfl⟩ := List.mem_map.1 hb
  unfold Lib.dg
  have : (UInt8.ofNat (48 + u / 10 ^ (nd - 1 - t) % 10)).toNat = 48 + u / 10 ^ (nd - 1 - t) % 10 := by rw [UInt8.toNat_ofNat']; omega
  omega
theorem fracF_asc {l : List UInt8} {dp : Int} {nd : Nat} {q : Int} (hl : asc l) : asc (fracF l dp nd q) := by
  unfold fracF
  by_cases h : 0 < q
  · rw [if_pos h]
    exact (((asc_dec (by decide)).app (asc_rep _)).app (asc.take (asc.drop hl))).app (asc_rep _)
  · rw [if_neg h]
    exact asc_dec (by decide)
theorem efgF_asc (neg : Bool) (l : List UInt8) (dp : Int) (nd : Nat) (prec : Int) (hl : asc l) (hd0 : -400 ≤ dp) (hd1 : dp ≤ 500) : asc (efgF neg l dp nd prec) := by
  unfold efgF
  split
  · unfold eF
    refine ((((signF_asc neg).app ?_).app ?_).app ?_).app ?_
    · intro b hb
      rw [List.mem_singleton] at hb
      subst hb
      split
      · decide
      · cases l with
        | nil => decide
        | cons a r => exact hl a (by simp)
    · unfold midE
      simp only []
      repeat' split
      all_goals first
        | exact ((asc_dec (by decide)).app (asc.take (asc.drop hl))).app (asc_rep _)
        | exact (asc_dec (by decide)).app (asc_rep _)
        | exact asc_dec (by decide)
    · exact asc_dec (by decide +kernel)
    · have hx : -500 ≤ exE dp nd ∧ exE dp nd ≤ 500 := by unfold exE; split <;> omega
      split
      · exact asc.app (a := [45]) (asc_dec (by decide)) (expF_asc _ (by omega) (by omega))
      · exact asc.app (a := [43]) (asc_dec (by decide)) (expF_asc _ (by omega) (by omega))
  · unfold fF
    refine ((signF_asc neg).app ?_).app ?_
    · unfold intF
      split
      · exact (asc.take hl).app (asc_rep _)
      · exact asc_dec (by decide)
    · exact fracF_asc hl
theorem in171 (neg : Bool) (exp mant : Int) (he0 : 1 ≤ exp) (he1 : exp ≤ 2046) (hm0 : 0 ≤ mant) (hm1 : mant < 9007199254740992) : ∃ out : List UInt8, (out.length ≤ 100 ∧ asc out) ∧
    ∀ (B : Nat) (w : World) (p : Option Addr) (n c : Nat) (R : Value → World → Prop), Tabs w → 15 < w.heap.size → Own B w p n c [] → B ≤ w.heap.size →
      (∀ p' n' c' w', Own B w' p' n' c' out → Gr B w w' → R (.slice p' n' c') w') → In171 p n c neg 71 (-1) 52 (-1023) exp mant w R := by
  by_cases hz : mant = 0
  · refine ⟨efgF neg [] 0 0 (-1), ⟨efgF_len _ _ _ _ _ (by decide) (by decide) (by decide) (by decide), efgF_asc _ _ _ _ _ (asc_dec rfl) (by decide) (by decide)⟩, fun B w p n c R ht h15 ho hB hR => ?_⟩
    unfold In171
    refine ⟨exp + -1023, i64w (by omega) (by omega), fun h => absurd (of_decide_eq_true h) (by decide), fun _ => ?_⟩
    intro K2 hK2
    refine ⟨fun h => absurd (of_decide_eq_true h) (by decide), fun _ => hK2 _ w ⟨fun h => absurd h (by decide), fun _ => ⟨fun _ => ?_, fun h => absurd hz (of_decide_eq_false h)⟩⟩⟩
    have := ret221 (acc := []) neg none 0 0 [] 0 0 (-1) ho hB (.inl rfl) (by simp) (by simp) (by simp) (by simp) (by simp) (by decide) (by decide) (by decide) (by decide)
    exact this.mono fun e w' ⟨p', n', c', he, ho', hg'⟩ => ⟨p', n', c', he, hR _ _ _ _ (by simpa using ho') hg'⟩
  · obtain ⟨M, rfl⟩ : ∃ M : Nat, mant = M := ⟨mant.toNat, by omega⟩
    have hM0 : M ≠ 0 := by omega
    obtain ⟨hb1, hb2⟩ := bitLen_bounds M hM0 (by omega)
    generalize hbl : Lib.bitLen M = bl at *
    obtain ⟨v, q, hv, hq0, hq1, hsf⟩ := ex228 (IntKind.u64.wrap ((M : Int) * 2 ^ (min ((64 : Int) - bl).toNat 64))) (exp + -1023 - (64 - bl) - 52) (u64_range _) (by omega) (by omega)
    obtain ⟨V, rfl⟩ : ∃ V : Nat, v = V := ⟨v.toNat, by unfold inU64 at hv; omega⟩
    have hV : V < 18446744073709551616 := by unfold inU64 at hv; omega
    obtain ⟨nd, hnd, hlt, hnum⟩ := ex119 V hV
    have htl := trimN_le (digN V nd) nd
    refine ⟨efgF neg (digN V nd) ((nd : Int) + q) (trimN (digN V nd) nd) (trimN (digN V nd) nd : Nat), ⟨efgF_len _ _ _ _ _ (by omega) (by omega) (by omega) (by omega), efgF_asc _ _ _ _ _ (digN_asc _ _) (by omega) (by omega)⟩, fun B w p n c R ht h15 ho hB hR => ?_⟩
    unfold In171
    refine ⟨exp + -1023, i64w (by omega) (by omega), fun h => absurd (of_decide_eq_true h) (by decide), fun _ => ?_⟩
    intro K2 hK2
    refine ⟨fun h => absurd (of_decide_eq_true h) (by decide), fun _ => hK2 _ w ⟨fun h => absurd h (by decide), fun _ => ⟨fun h => absurd (of_decide_eq_true h) hz, fun _ => ⟨fun _ => ?_, fun h => absurd h (by decide)⟩⟩⟩⟩
    clear hK2
    intro w10 hw10
    have hk10 : Keeps w w10 := by rw [hw10]; exact (Keeps.refl w).alloc _
    have hv10 : Var w10 w.heap.size 294 (List.replicate 32 zb) := by rw [hw10]; exact var_alloc w _ 294
    refine (bits_Len64 (M : Int) w10 (by omega) (by omega)).mono ?_
    rintro e w11 ⟨rfl, rfl⟩
    have hbl' : Lib.bitLen ((M : Int)).toNat = bl := hbl
    rw [hbl']
    refine ⟨_, rfl, 64 - (bl : Int), i64w (by omega) (by omega), by omega, _, rfl, exp + -1023 - (64 - bl), i64w (by omega) (by omega), exp + -1023 - (64 - bl) - 52, i64w (by omega) (by omega), ?_⟩
    refine (hsf w11 (ht.keeps hk10) (by have := hk10.size; omega)).go fun w12 hk12 => ⟨_, _, rfl, [], trivial, ?_⟩
    have hk12' := (hk10.trans hk12).drew
    refine (hnum w12.drew (ht.keeps hk12')).go fun w13 hk13 => ⟨_, rfl, ?_⟩
    have hk13' := hk12'.trans hk13
    have hk1013 := hk12.drew.trans hk13
    refine (ret223 V nd q hV hnd hlt hq0 hq1 w13 w.heap.size 294 (hv10.keeps hk1013)).mono ?_
    rintro e w14 ⟨rfl, hg14, hr14, cs14, hv14⟩
    have hk14 : Keeps w w14 := Below.grown hk13' hg14 hk13'.size (fun j hj => by cases hj; omega)
    refine ⟨_, _, rfl, ?_⟩
    intro K3 hK3 K4 hK4
    refine ⟨fun h => absurd (of_decide_eq_true h) (by decide), fun _ => hK4 _ w14 ⟨fun h => absurd h (by decide), fun _ => ⟨fun h => absurd (of_decide_eq_true h) (by decide), fun _ => ⟨fun h => absurd (of_decide_eq_true h) (by decide), fun _ => ⟨fun _ => ?_, fun h => absurd h (by decide)⟩⟩⟩⟩⟩
    refine hK3 _ w14 ?_
    have ho14 := ho.keeps hk14
    have := ret221 (acc := []) neg (some ⟨w.heap.size, 0, none⟩) 32 32 (digN V nd) ((nd : Int) + q) (trimN (digN V nd) nd) (trimN (digN V nd) nd : Nat) ho14 (Nat.le_trans hB hk14.size) (Src.of hv14 (by decide) hr14) (by rw [digN_len]; exact htl) (by rw [digN_len]; omega) (by omega) (by omega) (by simp) (by omega) (by omega) (by omega) (by omega)
    exact this.mono fun e w' ⟨p', n', c', he, ho', hg'⟩ => ⟨p', n', c', he, hR _ _ _ _ (by simpa using ho') ((Gr.of hk14 hB).trans hg')⟩
theorem tobits2 (x : Nat) (w : World) : (callFunc 218 ⟨[.float .f64 x]⟩).run prog w = .ok (.value (.int .u64 x)) w := by kernel_rfl
theorem ex171 (x : Nat) (hx : x < 18446744073709551616) : ∃ out : List UInt8, (out.length ≤ 100 ∧ asc out) ∧ ∀ (B : Nat) (w : World) (p : Option Addr) (n c : Nat), Tabs w → 15 < w.heap.size → Own B w p n c [] → B ≤ w.heap.size →
    Calls prog 171 ⟨[.slice p n c, .float .f64 x, .int .u8 71, .int .i64 (-1)]⟩ w fun e w' => ∃ p' n' c', e = .returned (.slice p' n' c') ∧ Own B w' p' n' c' out ∧ Gr B w w' := by
  have e63 : Int.fdiv (x : Int) (2 ^ (min (63 : Int).toNat 64)) = ((x / 2 ^ 63 : Nat) : Int) := fdiv_nat x 63
  have e52 : Int.fdiv (x : Int) (2 ^ (min (52 : Int).toNat 64)) = ((x / 2 ^ 52 : Nat) : Int) := fdiv_nat x 52
  have eexp : bits .and .i64 ((x / 2 ^ 52 : Nat) : Int) 2047 = ((x / 2 ^ 52 % 2048 : Nat) : Int) := by
    have := i64_and_nat (x / 2 ^ 52) 2047 (by omega) (by decide)
    rw [show (2047 : Nat) = 2 ^ 11 - 1 from rfl, Nat.and_two_pow_sub_one_eq_mod] at this
    exact this
  have emant : bits .and .u64 (x : Int) 4503599627370495 = ((x % 2 ^ 52 : Nat) : Int) := u64_mask x 52 hx (by decide)
  -- the common beginning
  have start : ∀ (B : Nat) (w : World) (p : Option Addr) (n c : Nat) (out : List UInt8),
      (∀ (R : Value → World → Prop), (∀ p' n' c' w', Own B w' p' n' c' out → Gr B w w' → R (.slice p' n' c') w') → VC171 p n c x 71 (-1) w R) →
      Calls prog 171 ⟨[.slice p n c, .float .f64 x, .int .u8 71, .int .i64 (-1)]⟩ w fun e w' => ∃ p' n' c', e = .returned (.slice p' n' c') ∧ Own B w' p' n' c' out ∧ Gr B w w' := by
    intro B w p n c out h
    have := c171 p n c x 71 (-1) w (fun v w' => ∃ p' n' c', v = .slice p' n' c' ∧ Own B w' p' n' c' out ∧ Gr B w w') (h _ fun p' n' c' w' ho hg => ⟨p', n', c', rfl, ho, hg⟩)
    exact this.mono fun e w' ⟨v, he, p', n', c', hv, h⟩ => ⟨p', n', c', by rw [he, hv], h⟩
  by_cases hE : x / 2 ^ 52 % 2048 = 2047
  · have spec : ∃ out : List UInt8, (out.length ≤ 100 ∧ asc out) ∧ ((¬ x % 2 ^ 52 = 0 ∧ out = [78, 97, 78]) ∨ (x % 2 ^ 52 = 0 ∧ ¬ x / 2 ^ 63 = 0 ∧ out = [45, 73, 110, 102]) ∨ (x % 2 ^ 52 = 0 ∧ x / 2 ^ 63 = 0 ∧ out = [43, 73, 110, 102])) := by
      by_cases h1 : x % 2 ^ 52 = 0
      · by_cases h2 : x / 2 ^ 63 = 0
        · exact ⟨_, ⟨by decide, asc_dec (by decide)⟩, .inr (.inr ⟨h1, h2, rfl⟩)⟩
        · exact ⟨_, ⟨by decide, asc_dec (by decide)⟩, .inr (.inl ⟨h1, h2, rfl⟩)⟩
      · exact ⟨_, ⟨by decide, asc_dec (by decide)⟩, .inl ⟨h1, rfl⟩⟩
    obtain ⟨out, hol, hout⟩ := spec
    refine ⟨out, hol, fun B w p n c ht h15 ho hB => start B w p n c out fun R hR => ?_⟩
    unfold VC171
    intro Kx hK
    refine ⟨fun h => absurd (of_decide_eq_true h) (by decide), fun _ => ⟨fun _ => ⟨_, w, tobits2 x w, ?_⟩, fun h => absurd h (by decide)⟩⟩
    refine hK _ _ _ _ w ⟨63, by decide, by decide, _, e63, by decide, _, e52, ((x / 2 ^ 52 : Nat) : Int), i64w (by omega) (by omega), by decide, 2048, by decide, 2047, by decide, _, eexp, by decide, 4503599627370496, by decide, 4503599627370495, by decide, _, emant, by decide, 2048, by decide, 2047, by decide, fun _ => ?_, fun h => absurd (of_decide_eq_false h) (by rw [hE]; decide)⟩
    have hod : Own B w.drew p n c [] := ho.drew
    have hkd : Gr B w w.drew := Gr.of (Keeps.refl w).drew hB
    rcases hout with ⟨h1, rfl⟩ | ⟨h1, h2, rfl⟩ | ⟨h1, h2, rfl⟩
    · refine ⟨fun _ => ?_, fun h => ?_⟩
      · obtain ⟨p', n', c', w', hr, ho', hg'⟩ := append_strT (l2 := [78, 97, 78]) hod hB (by simp) [false, true]
        exact ⟨p', n', c', w', hr, hR _ _ _ _ ho' (hkd.trans hg')⟩
      · simp only [Bool.not_eq_false', decide_eq_true_eq] at h; omega
    · refine ⟨fun h => ?_, fun _ => ⟨fun _ => ?_, fun h => ?_⟩⟩
      · simp only [Bool.not_eq_true', decide_eq_false_iff_not] at h; omega
      · obtain ⟨p', n', c', w', hr, ho', hg'⟩ := append_strT (l2 := [45, 73, 110, 102]) hod hB (by simp) [false, true]
        exact ⟨p', n', c', w', hr, hR _ _ _ _ ho' (hkd.trans hg')⟩
      · simp only [Bool.not_eq_false', decide_eq_true_eq] at h; omega
    · refine ⟨fun h => ?_, fun _ => ⟨fun h => ?_, fun _ => ?_⟩⟩
      · simp only [Bool.not_eq_true', decide_eq_false_iff_not] at h; omega
      · simp only [Bool.not_eq_true', decide_eq_false_iff_not] at h; omega
      · obtain ⟨p', n', c', w', hr, ho', hg'⟩ := append_strT (l2 := [43, 73, 110, 102]) hod hB (by simp) [false, true]
        exact ⟨p', n', c', w', hr, hR _ _ _ _ ho' (hkd.trans hg')⟩
  · have hor : ∃ V : Nat, bits .or .u64 ((x % 2 ^ 52 : Nat) : Int) 4503599627370496 = (V : Int) ∧ V < 9007199254740992 :=
      ⟨_, bits_or_u64_nat (x % 2 ^ 52) 4503599627370496 (by omega) (by decide), Nat.or_lt_two_pow (n := 53) (by omega) (by decide)⟩
    obtain ⟨V, hor, hV⟩ := hor
    obtain ⟨out, hol, hrun⟩ := in171 (!decide (((x / 2 ^ 63 : Nat) : Int) = 0)) (if x / 2 ^ 52 % 2048 = 0 then 1 else ((x / 2 ^ 52 % 2048 : Nat) : Int)) (if x / 2 ^ 52 % 2048 = 0 then ((x % 2 ^ 52 : Nat) : Int) else (V : Int)) (by split <;> omega) (by split <;> omega) (by split <;> omega) (by split <;> omega)
    refine ⟨out, hol, fun B w p n c ht h15 ho hB => start B w p n c out fun R hR => ?_⟩
    unfold VC171
    intro Kx hK
    refine ⟨fun h => absurd (of_decide_eq_true h) (by decide), fun _ => ⟨fun _ => ⟨_, w, tobits2 x w, ?_⟩, fun h => absurd h (by decide)⟩⟩
    refine hK _ _ _ _ w ⟨63, by decide, by decide, _, e63, by decide, _, e52, ((x / 2 ^ 52 : Nat) : Int), i64w (by omega) (by omega), by decide, 2048, by decide, 2047, by decide, _, eexp, by decide, 4503599627370496, by decide, 4503599627370495, by decide, _, emant, by decide, 2048, by decide, 2047, by decide, fun h => absurd (of_decide_eq_true h) (by omega), fun _ => ?_⟩
    have hkd : Gr B w w.drew := Gr.of (Keeps.refl w).drew hB
    have hin := hrun B w.drew p n c R (ht.keeps (Keeps.refl w).drew) h15 ho.drew hB (fun p' n' c' w' ho' hg' => hR _ _ _ _ ho' (hkd.trans hg'))
    intro K1 hK1
    refine ⟨fun h0 => ⟨1, by rw [of_decide_eq_true h0]; decide, ?_⟩, fun h0 => ⟨by decide, 4503599627370496, by decide, _, hor, ?_⟩⟩
    · have h0 : x / 2 ^ 52 % 2048 = 0 := by have := of_decide_eq_true h0; omega
      rw [if_pos h0, if_pos h0] at hin
      exact hK1 _ _ _ hin
    · have h0 : ¬ x / 2 ^ 52 % 2048 = 0 := by have := of_decide_eq_false h0; omega
      rw [if_neg h0, if_neg h0] at hin
      exact hK1 _ _ _ hin
theorem ex117 (x : Nat) (hx : x < 18446744073709551616) : ∃ out : List UInt8, (out.length ≤ 100 ∧ asc out) ∧ ∀ (w : World), Tabs w → 15 < w.heap.size → Ret 61 [.float .f64 x, .int .u8 71, .int .i64 (-1), .int .i64 64] w (.string (mkS out)) := by
  obtain ⟨out, hol, hrun⟩ := ex171 x hx
  refine ⟨out, hol, fun w ht h15 => ?_⟩
  have h117 : Ret 117 [.float .f64 x, .int .u8 71, .int .i64 (-1), .int .i64 64] w (.string (mkS out)) := by
    refine Ret.of (c117 _ _ _ _ w _ ?_)
    unfold VC117
    refine ⟨fun h => absurd (of_decide_eq_true h) (by decide), fun _ => ⟨fun _ => ⟨3, by decide, 24, by decide, ?_⟩, fun h => absurd h (by decide)⟩⟩
    obtain ⟨i, hi, hs, hby, hz⟩ := i5
    obtain ⟨w5, hr5, ho5, hg5⟩ := run_makeSlice_owned (P := prog) (w := w) w.heap.size 23 5 i (.int .u8 0) 1 u23 hi hz hs .i64 .i64 24 (by decide) (by rw [hby]; decide) (by decide) (Nat.le_refl _)
    have hk5 : Keeps w w5 := ⟨hg5.os, hg5.tape, hg5.output, hg5.size, fun k hk => hg5.block k hk (by simp)⟩
    have hown : Own w.heap.size w5 (some ⟨w.heap.size, 0, none⟩) 0 24 [] := ⟨ho5, rfl⟩
    refine ⟨_, _, _, w5, hr5, ?_⟩
    refine (hrun w.heap.size w5 _ _ _ (ht.keeps hk5) (by have := hk5.size; omega) hown hk5.size).mono ?_
    rintro e w6 ⟨p', n', c', rfl, ho6, hg6⟩
    exact ⟨_, _, _, rfl, _, w6, conv_string ho6.reads ho6.len, rfl, Below.trans hk5 hg6.below⟩
  exact Ret.of (c61 _ _ _ _ w _ (h117.go fun w1 hk1 => ⟨_, rfl, rfl, hk1⟩))
theorem exF : ∃ F : Nat → List UInt8, FloatIs F ∧ ∀ n, asc (F n) := by
  refine ⟨fun x => if h : x < 18446744073709551616 then (ex117 x h).choose else [], fun x => ⟨?_, fun hx w ht => ?_⟩, fun x => ?_⟩
  · show (if h : x < 18446744073709551616 then (ex117 x h).choose else []).length ≤ 100
    split
    · rename_i h; exact (ex117 x h).choose_spec.1.1
    · simp
  · show Ret 61 _ w (.string (mkS (if h : x < 18446744073709551616 then (ex117 x h).choose else [])))
    rw [dif_pos hx]
    exact (ex117 x hx).choose_spec.2 w ht ht.size
  · show asc (if h : x < 18446744073709551616 then (ex117 x h).choose else [])
    split
    · rename_i h; exact (ex117 x h).choose_spec.1.2
    · exact asc_dec rfl
end Go.Proofs.Tryz
set_option linter.unusedVariables false
set_option maxRecDepth 100000
namespace Go.Proofs.Tryz
open Go.Vc
def Tail5 (b : Nat) (t : List UInt8) (nx : Int) (w8 : World) (R : Value → World → Prop) : Prop :=
      ∃ x24 : Int, ∃ (x24_1 : Option Addr) (x24_1_n x24_1_c : Nat), LoadsRow prog 41 w8 ⟨b, 0, none⟩ [.int .i64 x24, .slice x24_1 x24_1_n x24_1_c] ∧ 
      ∃ x26 : Int, IntKind.i64.wrap nx = x26 ∧ 
      Calls prog 18 ⟨[.agg ⟨[.int .i64 x24, .slice x24_1 x24_1_n x24_1_c]⟩, .int .i64 x26]⟩ w8 fun e w9 => ∃ x27 : List UInt8, ∃ x27_1 : Bool, e = .returned (.tuple ⟨[.string (mkS x27), .bool x27_1]⟩) ∧ 
      ∃ x30 : Int, ∃ (x30_1 : Option Addr) (x30_1_n x30_1_c : Nat), LoadsRow prog 41 w9 ⟨b, 0, none⟩ [.int .i64 x30, .slice x30_1 x30_1_n x30_1_c] ∧ 
      Calls prog 19 ⟨[.agg ⟨[.int .i64 x30, .slice x30_1 x30_1_n x30_1_c]⟩]⟩ w9 fun e w10 => ∃ x31 : List UInt8, e = .returned (.string (mkS x31)) ∧ 
      (decide (x31 = t) = true →
      ∃ x35 : Int, ∃ (x35_1 : Option Addr) (x35_1_n x35_1_c : Nat), LoadsRow prog 41 w10 ⟨b, 0, none⟩ [.int .i64 x35, .slice x35_1 x35_1_n x35_1_c] ∧ 
        Calls prog 20 ⟨[.agg ⟨[.int .i64 x35, .slice x35_1 x35_1_n x35_1_c]⟩]⟩ w10 fun e w11 => ∃ x36 : List UInt8, e = .returned (.string (mkS x36)) ∧ 
        (decide (x36 = t) = true →
        ∃ x44 : Int, IntKind.i64.wrap nx = x44 ∧ 
          Calls prog 15 ⟨[.string (mkS t), .int .i64 x44]⟩ w11 fun e w12 => ∃ x45 : List UInt8, e = .returned (.string (mkS x45)) ∧ 
          (decide (x27 = x45) = true →
          ∃ x51 : Int, IntKind.i64.wrap nx = x51 ∧ 
            R (.bool (x27_1 == (decide (x51 < (t.length : Int))))) w12) ∧ (decide (x27 = x45) = false →
          R (.bool false) w12)) ∧ (decide (x36 = t) = false →
        R (.bool false) w11)) ∧ (decide (x31 = t) = false →
      R (.bool false) w10)
def VC5 (bm : Int) (bn : Bs) (bo : Bs) (xN : Int) (bp : Int) (bq : Int) (xB : Ptr) (br bs : Nat) (bt : Ptr) (bu bv : Nat) (nx : Int) (w : World) (R : RR) : Prop :=
 ∀ w1, w1 = w.alloc (.cells ⟨[.int .i64 bm, .string (mkS bn), .string (mkS bo), .int .i64 xN, .int .u64 bp, .int .u64 bq, .slice xB br bs, .slice bt bu bv]⟩ 26) →
 ∃ x9 : Int, ∃ aa ab : Bs, ∃ ac ad ae : Int, ∃ (bd : Ptr) (bw bx : Nat), ∃ (be : Ptr) (bz ca : Nat), LoadsRow prog 26 w1 ⟨w.heap.size, 0, none⟩ [.int .i64 x9, .string (mkS aa), .string (mkS ab), .int .i64 ac, .int .u64 ad, .int .u64 ae, .slice bd bw bx, .slice be bz ca] ∧
 Calls prog 6 ⟨[.agg ⟨[.int .i64 x9, .string (mkS aa), .string (mkS ab), .int .i64 ac, .int .u64 ad, .int .u64 ae, .slice bd bw bx, .slice be bz ca]⟩]⟩ w1 fun e w2 => ∃ x10 : Bool, e = .returned (.bool x10) ∧
 ((!x10) = true →
 R (.bool true) w2) ∧ ((!x10) = false →
 ∃ x12 : Int, ∃ af ag : Bs, ∃ ah ai aj : Int, ∃ (bf : Ptr) (cb cc : Nat), ∃ (bg : Ptr) (cd ce : Nat), LoadsRow prog 26 w2 ⟨w.heap.size, 0, none⟩ [.int .i64 x12, .string (mkS af), .string (mkS ag), .int .i64 ah, .int .u64 ai, .int .u64 aj, .slice bf cb cc, .slice bg cd ce] ∧
 Calls prog 16 ⟨[.agg ⟨[.int .i64 x12, .string (mkS af), .string (mkS ag), .int .i64 ah, .int .u64 ai, .int .u64 aj, .slice bf cb cc, .slice bg cd ce]⟩]⟩ w2 fun e w3 => ∃ x13 : List Value, e = .returned (.agg ⟨x13⟩) ∧
 Calls prog 11 ⟨[.agg ⟨x13⟩]⟩ w3 fun e w4 => ∃ x14 : Bool, e = .returned (.bool x14) ∧
 ((!x14) = true →
 R (.bool true) w4) ∧ ((!x14) = false →
 ∃ f : List (Addr × Value), Kept w4 f ∧
 ∃ x17 : Int, (⟨w.heap.size, 0, none⟩, .int .i64 x17) ∈ f ∧
 ∃ x18 : Int, ∃ ak al : Bs, ∃ am ao ap : Int, ∃ (bh : Ptr) (cf cg : Nat), ∃ (bi : Ptr) (ch ci : Nat), (cellsOf' prog 26 = some ([.int .i64 x18, .string (mkS ak), .string (mkS al), .int .i64 am, .int .u64 ao, .int .u64 ap, .slice bh cf cg, .slice bi ch ci] : List Value).length ∧ ∀ i v, ([.int .i64 x18, .string (mkS ak), .string (mkS al), .int .i64 am, .int .u64 ao, .int .u64 ap, .slice bh cf cg, .slice bi ch ci] : List Value)[i]? = some v → ((⟨w.heap.size, 0, none⟩ : Addr).add i, v) ∈ f) ∧
 ∃ x21 : Int, ∃ aq ar : Bs, ∃ au av aw : Int, ∃ (bj : Ptr) (cj ck : Nat), ∃ (bk : Ptr) (cl cm : Nat), (cellsOf' prog 26 = some ([.int .i64 x21, .string (mkS aq), .string (mkS ar), .int .i64 au, .int .u64 av, .int .u64 aw, .slice bj cj ck, .slice bk cl cm] : List Value).length ∧ ∀ i v, ([.int .i64 x21, .string (mkS aq), .string (mkS ar), .int .i64 au, .int .u64 av, .int .u64 aw, .slice bj cj ck, .slice bk cl cm] : List Value)[i]? = some v → ((⟨w.heap.size, 0, none⟩ : Addr).add i, v) ∈ f) ∧
 (Calls prog 17 ⟨[.agg ⟨[.int .i64 x18, .string (mkS ak), .string (mkS al), .int .i64 am, .int .u64 ao, .int .u64 ap, .slice bh cf cg, .slice bi ch ci]⟩]⟩ w4.drew fun e w5 => ∃ (x19 : Ptr) (cn co : Nat), e = .returned (.slice x19 cn co) ∧
 Kept w5 f ∧ (Kept w5 f ∧ (Calls prog 12 ⟨[.agg ⟨[.int .i64 x21, .string (mkS aq), .string (mkS ar), .int .i64 au, .int .u64 av, .int .u64 aw, .slice bj cj ck, .slice bk cl cm]⟩]⟩ w5 fun e w6 => ∃ x22 : Bs, e = .returned (.string (mkS x22)) ∧
 Kept w6 f ∧ ∀ w7, w7 = w6.alloc (.cells ⟨[.int .i64 0, .slice none 0 0]⟩ 41) →
 Kept w7 f ∧ ∃ w8, (Instr.storeAt 41 (.pointer (some ⟨w6.heap.size, 0, none⟩)) (.agg ⟨[.int .i64 x17, .slice x19 cn co]⟩)).run prog w7 = .ok () w8 ∧
 Tail5 w6.heap.size x22 nx w8 R) ∧ (∀ w13, w13 = w5.alloc (.cells ⟨[.int .i64 0, .slice none 0 0]⟩ 41) →
 Kept w13 f ∧ Calls prog 12 ⟨[.agg ⟨[.int .i64 x21, .string (mkS aq), .string (mkS ar), .int .i64 au, .int .u64 av, .int .u64 aw, .slice bj cj ck, .slice bk cl cm]⟩]⟩ w13 fun e w14 => ∃ ax : Bs, e = .returned (.string (mkS ax)) ∧
 Kept w14 f ∧ ∃ w15, (Instr.storeAt 41 (.pointer (some ⟨w5.heap.size, 0, none⟩)) (.agg ⟨[.int .i64 x17, .slice x19 cn co]⟩)).run prog w14 = .ok () w15 ∧
 Tail5 w5.heap.size ax nx w15 R)) ∧ ((Calls prog 12 ⟨[.agg ⟨[.int .i64 x21, .string (mkS aq), .string (mkS ar), .int .i64 au, .int .u64 av, .int .u64 aw, .slice bj cj ck, .slice bk cl cm]⟩]⟩ w5 fun e w20 => ∃ ay : Bs, e = .returned (.string (mkS ay)) ∧
 Kept w20 f ∧ (Kept w20 f ∧ ∀ w21, w21 = w20.alloc (.cells ⟨[.int .i64 0, .slice none 0 0]⟩ 41) →
 Kept w21 f ∧ ∃ w22, (Instr.storeAt 41 (.pointer (some ⟨w20.heap.size, 0, none⟩)) (.agg ⟨[.int .i64 x17, .slice x19 cn co]⟩)).run prog w21 = .ok () w22 ∧
 Tail5 w20.heap.size ay nx w22 R) ∧ (∀ w27, w27 = w20.alloc (.cells ⟨[.int .i64 0, .slice none 0 0]⟩ 41) →
 Kept w27 f ∧ Kept w27 f ∧ ∃ w28, (Instr.storeAt 41 (.pointer (some ⟨w20.heap.size, 0, none⟩)) (.agg ⟨[.int .i64 x17, .slice x19 cn co]⟩)).run prog w27 = .ok () w28 ∧
 Tail5 w20.heap.size ay nx w28 R)) ∧ (∀ w33, w33 = w5.alloc (.cells ⟨[.int .i64 0, .slice none 0 0]⟩ 41) →
 Kept w33 f ∧ (Kept w33 f ∧ Calls prog 12 ⟨[.agg ⟨[.int .i64 x21, .string (mkS aq), .string (mkS ar), .int .i64 au, .int .u64 av, .int .u64 aw, .slice bj cj ck, .slice bk cl cm]⟩]⟩ w33 fun e w34 => ∃ az : Bs, e = .returned (.string (mkS az)) ∧
 Kept w34 f ∧ ∃ w35, (Instr.storeAt 41 (.pointer (some ⟨w5.heap.size, 0, none⟩)) (.agg ⟨[.int .i64 x17, .slice x19 cn co]⟩)).run prog w34 = .ok () w35 ∧
 Tail5 w5.heap.size az nx w35 R) ∧ (Calls prog 12 ⟨[.agg ⟨[.int .i64 x21, .string (mkS aq), .string (mkS ar), .int .i64 au, .int .u64 av, .int .u64 aw, .slice bj cj ck, .slice bk cl cm]⟩]⟩ w33 fun e w40 => ∃ ba : Bs, e = .returned (.string (mkS ba)) ∧
 Kept w40 f ∧ Kept w40 f ∧ ∃ w41, (Instr.storeAt 41 (.pointer (some ⟨w5.heap.size, 0, none⟩)) (.agg ⟨[.int .i64 x17, .slice x19 cn co]⟩)).run prog w40 = .ok () w41 ∧
 Tail5 w5.heap.size ba nx w41 R)))) ∧ (∀ w46, w46 = w4.drew.alloc (.cells ⟨[.int .i64 0, .slice none 0 0]⟩ 41) →
 Kept w46 f ∧ Calls prog 17 ⟨[.agg ⟨[.int .i64 x18, .string (mkS ak), .string (mkS al), .int .i64 am, .int .u64 ao, .int .u64 ap, .slice bh cf cg, .slice bi ch ci]⟩]⟩ w46 fun e w47 => ∃ (bl : Ptr) (cp cq : Nat), e = .returned (.slice bl cp cq) ∧
 Kept w47 f ∧ (Kept w47 f ∧ Calls prog 12 ⟨[.agg ⟨[.int .i64 x21, .string (mkS aq), .string (mkS ar), .int .i64 au, .int .u64 av, .int .u64 aw, .slice bj cj ck, .slice bk cl cm]⟩]⟩ w47 fun e w48 => ∃ bb : Bs, e = .returned (.string (mkS bb)) ∧
 Kept w48 f ∧ ∃ w49, (Instr.storeAt 41 (.pointer (some ⟨w4.drew.heap.size, 0, none⟩)) (.agg ⟨[.int .i64 x17, .slice bl cp cq]⟩)).run prog w48 = .ok () w49 ∧
 Tail5 w4.drew.heap.size bb nx w49 R) ∧ (Calls prog 12 ⟨[.agg ⟨[.int .i64 x21, .string (mkS aq), .string (mkS ar), .int .i64 au, .int .u64 av, .int .u64 aw, .slice bj cj ck, .slice bk cl cm]⟩]⟩ w47 fun e w54 => ∃ bc : Bs, e = .returned (.string (mkS bc)) ∧
 Kept w54 f ∧ Kept w54 f ∧ ∃ w55, (Instr.storeAt 41 (.pointer (some ⟨w4.drew.heap.size, 0, none⟩)) (.agg ⟨[.int .i64 x17, .slice bl cp cq]⟩)).run prog w54 = .ok () w55 ∧
 Tail5 w4.drew.heap.size bc nx w55 R))))
def an5 : Ann :=
 .k .z
 (.k (.k (.t [.s [.int .i64, .str, .str, .int .i64, .int .u64, .int .u64, .slice, .slice], .s [.bool]])
 (.cond 1 2 .zl .l))
 (.k (.k (.t [.s [.int .i64, .str, .str, .int .i64, .int .u64, .int .u64, .slice, .slice], .s [.agg], .s [.bool]])
 (.cond 3 4 .zl .l))
 (.k (.reg (.held [8] (.take 0 (.q) (.take 1 (.s [.int .i64]) (.take 2 (.s [.int .i64, .str, .str, .int .i64, .int .u64, .int .u64, .slice, .slice]) (.take 5 (.s [.int .i64, .str, .str, .int .i64, .int .u64, .int .u64, .slice, .slice]) (.run 3 (.s [.slice]) (.run 4 (.q) (.run 6 (.s [.str]) (.run 7 (.q) (.run 8 (.q) (.take 9 (.q) .done) .done) .done) (.run 7 (.q) (.run 6 (.s [.str]) (.run 8 (.q) (.take 9 (.q) .done) .done) .done) .done)) (.run 6 (.s [.str]) (.run 4 (.q) (.run 7 (.q) (.run 8 (.q) (.take 9 (.q) .done) .done) .done) (.run 7 (.q) (.run 4 (.q) (.run 8 (.q) (.take 9 (.q) .done) .done) .done) .done)) (.run 7 (.q) (.run 4 (.q) (.run 6 (.s [.str]) (.run 8 (.q) (.take 9 (.q) .done) .done) .done) (.run 6 (.s [.str]) (.run 4 (.q) (.run 8 (.q) (.take 9 (.q) .done) .done) .done) .done)) .done))) (.run 7 (.q) (.run 3 (.s [.slice]) (.run 4 (.q) (.run 6 (.s [.str]) (.run 8 (.q) (.take 9 (.q) .done) .done) .done) (.run 6 (.s [.str]) (.run 4 (.q) (.run 8 (.q) (.take 9 (.q) .done) .done) .done) .done)) .done) .done))))))))
 (.k (.t [.s [.int .i64, .slice], .q, .q, .s [.str, .bool]])
 (.k (.t [.s [.int .i64, .slice], .s [.str], .q, .q, .q, .gs (.sh [.int .i64, .slice]) 5 6, .on 6 (.q) (.s [.str]), .q, .q, .q, .q, .on 6 (.q) (.gs .n 7 8), .q, .q, .q, .on 7 (.s [.str]) (.q), .q, .q, .q, .on 7 (.gs .n 9 10) (.q)])
 .l)))))
theorem c5 (aa : Int) (ab : Bs) (ac : Bs) (xN : Int) (ad : Int) (ae : Int) (xB : Ptr) (af ag : Nat) (ah : Ptr) (ai aj : Nat) (nx : Int) (w : World) (R : RR) (hvc : VC5 aa ab ac xN ad ae xB af ag ah ai aj nx w R) : CR 5 [.agg ⟨[.int .i64 aa, .string (mkS ab), .string (mkS ac), .int .i64 xN, .int .u64 ad, .int .u64 ae, .slice xB af ag, .slice ah ai aj]⟩, .int .u16 nx] w R :=
 vcc (fn := f5) (ann := an5) hvc (by kernel_rfl) (by kernel_rfl)
end Go.Proofs.Tryz
set_option linter.unusedVariables false
namespace Go.Proofs.Tryz
open Go.Vc Go.RowKit Go.Sort
theorem ret5 (nx : Int) (h0 : 0 ≤ nx) (h9 : nx ≤ 65535) (x : Val) (bp kp : Option Addr) (bc kc : Nat) (w : World) (P : Pre w)
    (hh : (decide (x.text.length ≤ 2147483647) && decide (x.more.length ≤ 2147483647) && decide (x.b.length ≤ 2147483647) && decide (x.kids.length ≤ 2147483647)) = true → Hangs 12 w x bp bc kp kc) :
    Ret 5 [.agg ⟨valCells x bp bc kp kc⟩, .int .u16 nx] w (.bool true) := by
  obtain ⟨F, hF, hA⟩ := exF
  refine Ret.of (c5 _ _ _ _ _ _ _ _ _ _ _ _ _ w _ ?_)
  unfold VC5
  intro w1 hw1
  have hk1 : Keeps w w1 := by rw [hw1]; exact (Keeps.refl w).alloc _
  have hv1 : Var w1 w.heap.size 26 (valCells x bp bc kp kc) := by rw [hw1]; exact var_alloc w _ 26
  clear hw1
  refine ⟨_, _, _, _, _, _, _, _, _, _, _, _, hv1.lies.row n26, ?_⟩
  refine (ret6 x bp kp bc kc w1 _ rfl).go fun w2 hk2 => ⟨_, rfl, fun _ => ⟨rfl, hk1.trans hk2⟩, fun hb => ?_⟩
  have hh := hh (bool_not_not hb)
  have hk02 := hk1.trans hk2
  refine ⟨_, _, _, _, _, _, _, _, _, _, _, _, (hv1.keeps hk2).lies.row n26, ?_⟩
  refine (ret16 x bp kp bc kc w2).mono ?_
  rintro e w3 ⟨bp', kp', bc', kc', rfl, hk3, hhd⟩
  have hh3 := hhd 11 (hh.keeps hk02)
  have hk03 := hk02.trans hk3
  refine ⟨_, rfl, ?_⟩
  refine (ret11 hF (elemOf x) bp' kp' bc' kc' w3 (P.tabs.keeps hk03) hh3).go fun b w4 hbb hk4 => ⟨b, rfl, fun _ => ⟨rfl, hk03.trans hk4⟩, fun hbt => ?_⟩
  obtain ⟨hf, hr, hp, hl, he⟩ := hbb (bool_not_not hbt)
  have hk04 := hk03.trans hk4
  have hkd : Keeps w w4.drew := hk04.drew
  have hmem : (([97] : List UInt8), x) ∈ (elemOf x).kids := List.mem_singleton.2 rfl
  have hfx : FitsV 10 x := (hf.2 _ _ hmem).2
  have hrx : RightV 10 x := hr.2 (.inl rfl) _ _ hmem
  have hlx : LongV 10 x := (hl.2 _ _ hmem).2.2
  have hex : NoEV F 10 x := he.2 _ _ hmem
  have hpx : nparts 10 x ≤ 300 := by have h : nparts 10 x + 1 ≤ nparts 11 (elemOf x) := nparts_kid (d := 10) hmem; omega
  have hh10 : Hangs 10 w x bp bc kp kc := hh.down.down
  have ready := ready_of hF w P.tabs 10 x bp kp bc kc hh10 hfx hrx hlx hex (by omega)
  have h52 := (text_kids hF hA 10 x ready).1
  have hku := u8_kind ready.own.good.right
  have htl : (longV F 11 x).length ≤ 50000000 := ready.own.tlen
  obtain ⟨t, ht⟩ : ∃ t, t = longV F 11 x := ⟨_, rfl⟩
  have hv4 : Var w4 w.heap.size 26 (valCells x bp bc kp kc) := ((hv1.keeps hk2).keeps hk3).keeps hk4
  have hkept : Kept w4 (rowFacts w.heap.size 0 (valCells x bp bc kp kc)) := hv4.lies.kept
  have mem : ∀ (j : Nat) (v : Value), (valCells x bp bc kp kc)[j]? = some v → ((⟨w.heap.size, 0, none⟩ : Addr).add j, v) ∈ rowFacts w.heap.size 0 (valCells x bp bc kp kc) := fun j v hj => mem_rowFacts_add hj
  have hdr : Keeps w4 w4.drew := (Keeps.refl w4).drew
  have kk : ∀ {wa : World}, Keeps w4 wa → Kept wa (rowFacts w.heap.size 0 (valCells x bp bc kp kc)) := fun k => kept_keeps hkept k
  have d17 : ∀ (wa : World), Keeps w wa → Adds 17 [.agg ⟨valCells x bp bc kp kc⟩] wa.heap.size wa (bytesV 11 x) := fun wa k => ret17 10 x bp kp bc kc wa (hh10.keeps k) hfx hlx (by omega)
  have d12 : ∀ (wa : World), Keeps w wa → Ret 12 [.agg ⟨valCells x bp bc kp kc⟩] wa (.string (mkS t)) := fun wa k => ht ▸ ret12 hF 10 x bp kp bc kc wa (P.tabs.keeps k) (hh10.keeps k) hfx hrx (by omega)
  have fin : ∀ (b : Nat) (wa : World) (p : Option Addr) (n c : Nat), Keeps w wa → w.heap.size ≤ b → Var wa b 41 [.int .i64 0, .slice none 0 0] → ReadsB wa p (bytesV 11 x) → n = (bytesV 11 x).length → n ≤ c →
      ∃ w8, (Instr.storeAt 41 (.pointer (some ⟨b, 0, none⟩)) (.agg ⟨[.int .i64 x.kind, .slice p n c]⟩)).run prog wa = .ok () w8 ∧ Tail5 b t nx w8 (fun u w' => u = .bool true ∧ Keeps w w') := by
    intro b wa p n c hka hb hva hra hn hc
    obtain ⟨w8, hst, hg8, hs8, hv8⟩ := store_row (ty := 41) (n := 2) (cs := [.int .i64 x.kind, .slice p n c]) hva n41 rfl rfl rfl
    have hk8 : Keeps w w8 := Below.grown hka hg8 hka.size (fun j hj => by cases hj; exact hb)
    refine ⟨w8, hst, ?_⟩
    have hr8 : ReadsB w8 p (bytesV 11 x) := by
      intro j v hj
      obtain ⟨a, ha, hc⟩ := hra j v hj
      refine ⟨a, ha, ?_⟩
      by_cases hx : (a.add j).block = b
      · exfalso
        unfold Var at hva
        have h3 := cell_spot' hc
        rw [h3, hx, cell_of_row _ b _ ⟨[.int .i64 0, .slice none 0 0]⟩ 41 (0, 0) hva] at hc
        generalize (a.add j).off = i at hc
        rcases i with _ | _ | i
        · simp at hc
        · simp at hc
        · simp at hc
      · exact grown_cell hg8 hx hc
    unfold Tail5
    refine ⟨_, _, _, _, hv8.lies.row n41, nx, i64w (by omega) (by omega), ?_⟩
    refine (ret18 h52 hku p n c w8 (P.keeps hk8) hr8 hn hc nx (by omega) (by omega)).go fun w9 hk9 => ⟨_, _, rfl, ?_⟩
    have hk09 := hk8.trans hk9
    have hv9 := hv8.keeps hk9
    refine ⟨_, _, _, _, hv9.lies.row n41, ?_⟩
    refine (ret19 h52 hku p n c w9 (P.keeps hk09) (hr8.keeps hk9) hn hc).go fun w10 hk10 => ⟨_, rfl, fun _ => ?_, fun h => absurd ht.symm (of_decide_eq_false h)⟩
    have hk010 := hk09.trans hk10
    refine ⟨_, _, _, _, (hv9.keeps hk10).lies.row n41, ?_⟩
    refine (ret20 h52 hku p n c w10 (P.keeps hk010) ((hr8.keeps hk9).keeps hk10) hn hc).go fun w11 hk11 => ⟨_, rfl, fun _ => ?_, fun h => absurd ht.symm (of_decide_eq_false h)⟩
    have hk011 := hk010.trans hk11
    obtain ⟨N, rfl⟩ : ∃ N : Nat, nx = N := ⟨nx.toNat, by omega⟩
    refine ⟨(N : Int), i64w (by omega) (by omega), (ret15 t N (by rw [ht]; omega) (by omega) w11).go fun w12 hk12 => ⟨_, rfl, fun _ => ⟨(N : Int), i64w (by omega) (by omega), ?_, hk011.trans hk12⟩, fun h => absurd ?_ (of_decide_eq_false h)⟩⟩
    · unfold lessT
      rw [decide_eq_true (by omega : (0 : Int) ≤ (N : Int)), Bool.true_and, ht, beq_self_eq_true]
    · rw [nT_pos (by omega), ht]; rfl
  have hsz : w.heap.size ≤ w4.drew.heap.size := hkd.size
  refine ⟨_, hkept, x.kind, mem 0 _ rfl, _, _, _, _, _, _, _, _, _, _, _, _, ⟨n26, mem⟩, _, _, _, _, _, _, _, _, _, _, _, _, ⟨n26, mem⟩, ?_⟩
  -- a raw value laid behind a world
  have lay : ∀ (wa : World), Keeps w wa → ∀ wb, wb = wa.alloc (.cells ⟨[.int .i64 0, .slice none 0 0]⟩ 41) → Keeps wa wb ∧ Var wb wa.heap.size 41 [.int .i64 0, .slice none 0 0] := by
    intro wa hka wb hwb
    subst hwb
    exact ⟨(Keeps.refl wa).alloc _, var_alloc wa _ 41⟩
  refine ⟨?_, fun w46 hw46 => ?_⟩
  · refine (d17 w4.drew hkd).go fun w5 p n c ho5 hg5 => ?_
    have hk5 : Keeps w4 w5 := hdr.trans hg5.keeps
    have hk05 := hk04.trans hk5
    refine ⟨_, _, _, rfl, kk hk5, ⟨kk hk5, ?_, fun w13 hw13 => ?_⟩, ?_, fun w33 hw33 => ?_⟩
    · refine (d12 w5 hk05).go fun w6 hk6 => ⟨_, rfl, kk (hk5.trans hk6), fun w7 hw7 => ?_⟩
      obtain ⟨hk7, hv7⟩ := lay w6 (hk05.trans hk6) w7 hw7
      exact ⟨kk ((hk5.trans hk6).trans hk7), fin _ w7 p n c ((hk05.trans hk6).trans hk7) (hk05.trans hk6).size hv7 ((ho5.reads.keeps hk6).keeps hk7) ho5.len ho5.cap⟩
    · obtain ⟨hk13, hv13⟩ := lay w5 hk05 w13 hw13
      refine ⟨kk (hk5.trans hk13), (d12 w13 (hk05.trans hk13)).go fun w14 hk14 => ⟨_, rfl, kk ((hk5.trans hk13).trans hk14), ?_⟩⟩
      exact fin _ w14 p n c ((hk05.trans hk13).trans hk14) hk05.size (hv13.keeps hk14) ((ho5.reads.keeps hk13).keeps hk14) ho5.len ho5.cap
    · refine (d12 w5 hk05).go fun w20 hk20 => ⟨_, rfl, kk (hk5.trans hk20), ⟨kk (hk5.trans hk20), fun w21 hw21 => ?_⟩, fun w27 hw27 => ?_⟩
      · obtain ⟨hk21, hv21⟩ := lay w20 (hk05.trans hk20) w21 hw21
        exact ⟨kk ((hk5.trans hk20).trans hk21), fin _ w21 p n c ((hk05.trans hk20).trans hk21) (hk05.trans hk20).size hv21 ((ho5.reads.keeps hk20).keeps hk21) ho5.len ho5.cap⟩
      · obtain ⟨hk21, hv21⟩ := lay w20 (hk05.trans hk20) w27 hw27
        exact ⟨kk ((hk5.trans hk20).trans hk21), kk ((hk5.trans hk20).trans hk21), fin _ w27 p n c ((hk05.trans hk20).trans hk21) (hk05.trans hk20).size hv21 ((ho5.reads.keeps hk20).keeps hk21) ho5.len ho5.cap⟩
    · obtain ⟨hk13, hv13⟩ := lay w5 hk05 w33 hw33
      refine ⟨kk (hk5.trans hk13), ⟨kk (hk5.trans hk13), (d12 w33 (hk05.trans hk13)).go fun w14 hk14 => ⟨_, rfl, kk ((hk5.trans hk13).trans hk14), ?_⟩⟩, (d12 w33 (hk05.trans hk13)).go fun w14 hk14 => ⟨_, rfl, kk ((hk5.trans hk13).trans hk14), kk ((hk5.trans hk13).trans hk14), ?_⟩⟩
      · exact fin _ w14 p n c ((hk05.trans hk13).trans hk14) hk05.size (hv13.keeps hk14) ((ho5.reads.keeps hk13).keeps hk14) ho5.len ho5.cap
      · exact fin _ w14 p n c ((hk05.trans hk13).trans hk14) hk05.size (hv13.keeps hk14) ((ho5.reads.keeps hk13).keeps hk14) ho5.len ho5.cap
  · obtain ⟨hk46, hv46⟩ := lay w4.drew hkd w46 hw46
    have hk046 := hkd.trans hk46
    have hk446 := hdr.trans hk46
    refine ⟨kk hk446, (d17 w46 hk046).go fun w47 p n c ho47 hg47 => ?_⟩
    have hk47 := hg47.keeps
    have hk447 := hk446.trans hk47
    have hk047 := hk046.trans hk47
    refine ⟨_, _, _, rfl, kk hk447, ⟨kk hk447, (d12 w47 hk047).go fun w48 hk48 => ⟨_, rfl, kk (hk447.trans hk48), ?_⟩⟩, (d12 w47 hk047).go fun w54 hk54 => ⟨_, rfl, kk (hk447.trans hk54), kk (hk447.trans hk54), ?_⟩⟩
    · exact fin _ w48 p n c (hk047.trans hk48) hsz ((hv46.keeps hk47).keeps hk48) (ho47.reads.keeps hk48) ho47.len ho47.cap
    · exact fin _ w54 p n c (hk047.trans hk54) hsz ((hv46.keeps hk47).keeps hk54) (ho47.reads.keeps hk54) ho47.len ho47.cap
end Go.Proofs.Tryz
set_option linter.unusedVariables false
set_option maxRecDepth 100000
namespace Go.Proofs.Tryz
open Go.Vc Go.RowKit Go.Lib Go.ChangeShapes Go.WideShapes
open Go.Proofs.YtfofafjemgfobaaGreatDoor
theorem f5_params : f5.params = #[26, 38] := by kernel_rfl
theorem laid_same : Rows.fnTextValueRow.laid = Rows.fnTextCutRow.laid := rfl
def zeroArgsv : Array Value := #[.agg ⟨valCells (.mk 0 [] [] 0 0 0 [] []) none 0 none 0⟩, .int .u16 0]
theorem law_lifted_v (os : Os) (started : os.Started) (H : Type) (enc : TypeId × Value → H) :
    ReturnsInHanded {} Go.Proofs.Tryz.checked os 5 .any (fun w args => (Rows.fnTextValueSpec.pre enc prog f5 [] false w args ∧ laidMetH prog Rows.fnTextValueRow.laid w) ∧ sizedMet enc prog f5 (OpenSpec.ofChange Rows.fnTextValueSpec) false w args)
      (Rows.fnTextValueSpec.post enc prog f5 false true false false) := by
  refine returnsInHanded_of_change_and (C := Go.Proofs.Tryz.checked) (X := fun w _ => laidMetH prog Rows.fnTextValueRow.laid w) (fun _ _ _ hh h => h.of_heap hh) own_knob started (by kernel_rfl) func5
    (ChangeSpec.witness_shaped (enc := enc) (C := Go.Proofs.Tryz.checked) (os := os) (X := fun w _ => laidMetH prog Rows.fnTextValueRow.laid w) false (laidWorld os) zeroArgsv 8 rfl (shaped os _) (by kernel_rfl) (by kernel_rfl) (by kernel_rfl) (laid_same ▸ laid_met os _)) ?_
  intro W base args ds gs before hval0 hW _ hsz hL _
  have hL' : laidMetH prog Rows.fnTextValueRow.laid W := hL
  rw [laid_same, Go.MakeChecks.laidMetH_plain _ _ _ no_handles] at hL'
  have rd := fun (i : Nat) (n : String) (d : DataW Unit) (h : Rows.fnTextValueRow.laid[i]? = some (n, d)) => Go.Lib.laidMet.reads hL' (List.mem_of_getElem? h)
  have T : Pre W := pre_of_reads (rd 3 _ _ rfl) (rd 9 _ _ rfl) (rd 7 _ _ rfl) (rd 10 _ _ rfl) (rd 4 _ _ rfl)
  have hval : ∀ (j : Nat) t v, f5.params[j]? = some t → args[j]? = some v → Value.okWide prog W .any base t v := hval0
  have hW' := hW
  obtain ⟨p, q, hA0, hV0, rfl, hfz, hnd⟩ := hW
  have hA : DataW.TrodAll enc prog W 0 (fun _ => true) true f5.params.toList args.toList ds p := hA0
  have hV : DataW.TrodVars enc prog W (fun _ => true) [] gs q := hV0
  obtain ⟨rfl, rfl⟩ := trodVars_none hV
  have hwt : (DataW.weightsEach prog f5.params.toList ds).all (· ≤ reachBytes) = true := by
    have := hsz
    simp only [List.append_nil] at this
    exact this
  rw [f5_params] at hA hval hwt
  obtain ⟨v0, v1, d0, d1, p0, p1, rfl, rfl, rfl, h0, h1⟩ := trodAll_two hA
  obtain ⟨b, rfl, rfl, rfl, hbw⟩ := open_int ut38 (hval 1 38 v1 rfl rfl) h1
  have hbr : 0 ≤ b ∧ b ≤ 65535 := by
    simp only [Lit.wf, Bool.and_eq_true, decide_eq_true_eq] at hbw
    exact hbw
  obtain ⟨fuel, hf⟩ := h0
  obtain ⟨X, bp, kp, bc, kc, hcells, hh⟩ := open_val fuel _ _ hf (fun n hn => by
    have := List.all_eq_true.1 hwt n (DataW.weights_mem_each (j := 0) (t := 26) rfl rfl n hn)
    simpa using this)
  obtain ⟨fs26, hu26, _⟩ := fields26
  obtain ⟨cs, rfl, _⟩ := okWide_struct hu26 (hval 0 26 v0 rfl rfl)
  have hcs : cs = ⟨valCells X bp bc kp kc⟩ := by
    have : cs.toList = valCells X bp bc kp kc := hcells
    rw [← this]
  subst hcs
  refine (ret5 b hbr.1 hbr.2 X bp kp bc kc W T (fun _ => hh 12)).mono fun e W' ⟨he, hk⟩ => ?_
  subst he
  have e1 : Rows.fnTextValueSpec.fn H ([d0, .lit (.int .u16 b)] ++ []) = { results := [.lit (.bool true)], args := [d0, .lit (.int .u16 b)] } := by simp [Rows.fnTextValueSpec]
  have hold : ∀ x ∈ p0, (fun k => decide (k < W.heap.size)) x.block = true := fun x hx => by
    have := DataW.trod_lt _ _ _ _ hf x hx
    simpa using this
  have hcarry : DataW.trod enc prog W' 0 (fun k => decide (k < W.heap.size)) true fuel 26 (valCells X bp bc kp kc) = some (d0, p0) :=
    DataW.trod_respare kids_all slices_full _ _ _ _ (by show 26 < prog.types.size; rw [types_size382]; decide) (DataW.trod_carry _ _ _ _ hf fun x hx => Below.same hk (DataW.trod_lt _ _ _ _ hf x hx)) hold
  refine ⟨_, rfl, [d0, .lit (.int .u16 b)], [], p0 ++ [] ++ [], [], p0 ++ [], [], hW', ?_, ?_, ?_, Below.frame hk _, fun h => by cases h⟩
  · rw [e1]; exact trodAll_mk1 (shut_bool ut4 true)
  · rw [e1, f5_params]; exact trodAll_mk2 ⟨fuel, hcarry⟩ (shut_int ut38 hbw)
  · rw [e1]; rfl
end Go.Proofs.Tryz
