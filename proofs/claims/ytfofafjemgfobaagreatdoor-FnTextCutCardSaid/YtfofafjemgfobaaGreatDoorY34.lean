/- Parts of a proof, joined: A26, B44, S5c. -/
import Derived.Test.YtfofafjemgfobaaGreatDoorY33
import Derived.Test.YtfofafjemgfobaaGreatDoorY31
import Derived.Test.YtfofafjemgfobaaGreatDoorYS5
/- The shortest decimal of a floating-point number: FormatFloat at 'G', -1, 64 answers, and always the same. -/
set_option linter.unusedVariables false
namespace Go.Proofs.Tryz
open Go.Vc Go.RowKit Go.Sort
/-- What is left when the number is parted. -/
def In171 (dst : Option Addr) (dst_n dst_c : Nat) (neg : Bool) (fmt prec mantBits bias exp mant : Int) (w5 : World) (R : Value → World → Prop) : Prop :=
  (∃ x87 : Int, IntKind.i64.wrap (exp + bias) = x87 ∧ 
        (decide (fmt = 98) = true →
        ∃ x95 : Int, IntKind.i64.wrap (x87 - mantBits) = x95 ∧ 
          Calls prog 219 ⟨[.slice dst dst_n dst_c, .bool neg, .int .u64 mant, .int .i64 x95]⟩ w5 fun e w6 => ∃ (x96 : Option Addr) (x96_n x96_c : Nat), e = .returned (.slice x96 x96_n x96_c) ∧ 
          R (.slice x96 x96_n x96_c) w6) ∧ (decide (fmt = 98) = false →
        ∀ Kx_2 : Bool → World → Prop, (∀ x102 : Bool, ∀ w7,
          ((x102 = true →
            Calls prog 220 ⟨[.slice dst dst_n dst_c, .int .i64 prec, .int .u8 fmt, .bool neg, .int .u64 mant, .int .i64 x87, .int .i64 mantBits]⟩ w7 fun e w8 => ∃ (x110 : Option Addr) (x110_n x110_c : Nat), e = .returned (.slice x110 x110_n x110_c) ∧ 
              R (.slice x110 x110_n x110_c) w8) ∧ (x102 = false →
            (decide (mant = 0) = true →
              Calls prog 221 ⟨[.slice dst dst_n dst_c, .bool neg, .slice none 0 0, .int .i64 0, .int .i64 0, .int .i64 prec, .int .u8 fmt, .bool (decide (prec < 0))]⟩ w7 fun e w9 => ∃ (x119 : Option Addr) (x119_n x119_c : Nat), e = .returned (.slice x119 x119_n x119_c) ∧ 
                R (.slice x119 x119_n x119_c) w9) ∧ (decide (mant = 0) = false →
              (decide (prec < 0) = true →
                ∀ w10, w10 = w7.alloc (.cells ⟨[.int .u8 0, .int .u8 0, .int .u8 0, .int .u8 0, .int .u8 0, .int .u8 0, .int .u8 0, .int .u8 0, .int .u8 0, .int .u8 0, .int .u8 0, .int .u8 0, .int .u8 0, .int .u8 0, .int .u8 0, .int .u8 0, .int .u8 0, .int .u8 0, .int .u8 0, .int .u8 0, .int .u8 0, .int .u8 0, .int .u8 0, .int .u8 0, .int .u8 0, .int .u8 0, .int .u8 0, .int .u8 0, .int .u8 0, .int .u8 0, .int .u8 0, .int .u8 0]⟩ 294) → 
                  Calls prog 173 ⟨[.int .u64 mant]⟩ w10 fun e w11 => ∃ x123 : Int, e = .returned (.int .i64 x123) ∧ 
                  ∃ x124 : Int, IntKind.i64.wrap (64 - x123) = x124 ∧ 
                  (0 : Int) ≤ x124 ∧ ∃ x127 : Int, IntKind.u64.wrap (mant * 2 ^ (min x124.toNat 64)) = x127 ∧ 
                  ∃ x130 : Int, IntKind.i64.wrap (x87 - x124) = x130 ∧ 
                  ∃ x135 : Int, IntKind.i64.wrap (x130 - mantBits) = x135 ∧ 
                  Calls prog 228 ⟨[.int .u64 x127, .int .i64 x135]⟩ w11 fun e w12 => ∃ x136 : Int, ∃ x136_1 : Int, e = .returned (.tuple ⟨[.int .u64 x136, .int .i64 x136_1]⟩) ∧ 
                  ∃ f : List (Addr × Value), Kept w12 f ∧
                  Calls prog 119 ⟨[.int .u64 x136]⟩ w12.drew fun e w13 => ∃ x144 : Int, e = .returned (.int .i64 x144) ∧ 
                  Calls prog 223 ⟨[.slice (some (⟨w7.heap.size, 0, none⟩)) 32 32, .int .u64 x136, .int .i64 x136_1, .int .i64 x144]⟩ w13 fun e w14 => ∃ x145 : Int, ∃ x145_1 : Int, e = .returned (.tuple ⟨[.int .i64 x145, .int .i64 x145_1]⟩) ∧ 
                  ∀ Kx_3 : Int → World → Prop, (∀ prec_1 : Int, ∀ w15,
                  (Calls prog 221 ⟨[.slice dst dst_n dst_c, .bool neg, .slice (some (⟨w7.heap.size, 0, none⟩)) 32 32, .int .i64 x145, .int .i64 x145_1, .int .i64 prec_1, .int .u8 fmt, .bool true]⟩ w15 fun e w16 => ∃ (x172 : Option Addr) (x172_n x172_c : Nat), e = .returned (.slice x172 x172_n x172_c) ∧ 
                    R (.slice x172 x172_n x172_c) w16) → Kx_3 prec_1 w15) →
                  ∀ Kx_4 : Bool → World → Prop, (∀ x149 : Bool, ∀ w17,
                  ((x149 = true →
                    ∃ x153 : Int, IntKind.i64.wrap (x145_1 - 1) = x153 ∧ 
                      ∃ x154 : Int, (if (0 : Int) > x153 then 0 else x153) = x154 ∧ 
                      Kx_3 x154 w17) ∧ (x149 = false →
                    (decide (fmt = 102) = true →
                      ∃ x159 : Int, IntKind.i64.wrap (x145_1 - x145) = x159 ∧ 
                        ∃ x160 : Int, (if (0 : Int) > x159 then 0 else x159) = x160 ∧ 
                        Kx_3 x160 w17) ∧ (decide (fmt = 102) = false →
                      (decide (fmt = 103) = true →
                        (decide (fmt = 103) = true →
                          Kx_3 x145_1 w17) ∧ (decide (fmt = 103) = false →
                          Kx_3 prec w17)) ∧ (decide (fmt = 103) = false →
                        (decide (fmt = 71) = true →
                          Kx_3 x145_1 w17) ∧ (decide (fmt = 71) = false →
                          Kx_3 prec w17))))) → Kx_4 x149 w17) →
                  (decide (fmt = 101) = true →
                  Kx_4 (decide (fmt = 101)) w14) ∧ (decide (fmt = 101) = false →
                  Kx_4 (decide (fmt = 69)) w14)) ∧ (decide (prec < 0) = false →
                ∀ Kx_5 : Int → World → Prop, (∀ prec_2 : Int, ∀ w18,
                  (∀ w19, w19 = w18.alloc (.cells ((zeros prog 302).getD #[]) 302) → 
                    Calls prog 225 ⟨[.pointer (some (⟨w18.heap.size, 0, none⟩)), .int .u64 mant]⟩ w19 fun e w20 => e = .returned (.tuple ⟨[]⟩) ∧ 
                    ∃ x253 : Int, IntKind.i64.wrap (x87 - mantBits) = x253 ∧ 
                    Calls prog 226 ⟨[.pointer (some (⟨w18.heap.size, 0, none⟩)), .int .i64 x253]⟩ w20 fun e w21 => e = .returned (.tuple ⟨[]⟩) ∧ 
                    ∀ Kx_6 : Int → World → Prop, (∀ prec_3 : Int, ∀ w22,
                    (∃ f_1 : List (Addr × Value), Kept w22 f_1 ∧
                      ∃ x290 : Int, (⟨w18.heap.size, 801, none⟩, .int .i64 x290) ∈ f_1 ∧ 
                      ∃ x294 : Int, (⟨w18.heap.size, 800, none⟩, .int .i64 x294) ∈ f_1 ∧ 
                      Calls prog 221 ⟨[.slice dst dst_n dst_c, .bool neg, .slice (some (⟨w18.heap.size, 0, none⟩)) 800 800, .int .i64 x290, .int .i64 x294, .int .i64 prec_3, .int .u8 fmt, .bool false]⟩ w22.drew fun e w23 => ∃ (x297 : Option Addr) (x297_n x297_c : Nat), e = .returned (.slice x297 x297_n x297_c) ∧ 
                      R (.slice x297 x297_n x297_c) w23) → Kx_6 prec_3 w22) →
                    ∀ Kx_7 : Bool → World → Prop, (∀ x256 : Bool, ∀ w24,
                    ((x256 = true →
                      ∃ x261 : Int, IntKind.i64.wrap (prec_2 + 1) = x261 ∧ 
                        Calls prog 227 ⟨[.pointer (some (⟨w18.heap.size, 0, none⟩)), .int .i64 x261]⟩ w24 fun e w25 => e = .returned (.tuple ⟨[]⟩) ∧ 
                        Kx_6 prec_2 w25) ∧ (x256 = false →
                      (decide (fmt = 102) = true →
                        ∃ x269 : Int, w24.cell? ⟨w18.heap.size, 801, none⟩ = some (.int .i64 x269) ∧ 
                          ∃ x271 : Int, IntKind.i64.wrap (x269 + prec_2) = x271 ∧ 
                          Calls prog 227 ⟨[.pointer (some (⟨w18.heap.size, 0, none⟩)), .int .i64 x271]⟩ w24 fun e w26 => e = .returned (.tuple ⟨[]⟩) ∧ 
                          Kx_6 prec_2 w26) ∧ (decide (fmt = 102) = false →
                        ∀ Kx_8 : Bool → World → Prop, (∀ x273 : Bool, ∀ w27,
                          ((x273 = true →
                            (decide (prec_2 = 0) = true →
                              Calls prog 227 ⟨[.pointer (some (⟨w18.heap.size, 0, none⟩)), .int .i64 1]⟩ w27 fun e w28 => e = .returned (.tuple ⟨[]⟩) ∧ 
                                Kx_6 1 w28) ∧ (decide (prec_2 = 0) = false →
                              Calls prog 227 ⟨[.pointer (some (⟨w18.heap.size, 0, none⟩)), .int .i64 prec_2]⟩ w27 fun e w29 => e = .returned (.tuple ⟨[]⟩) ∧ 
                                Kx_6 prec_2 w29)) ∧ (x273 = false →
                            Kx_6 prec_2 w27)) → Kx_8 x273 w27) →
                          (decide (fmt = 103) = true →
                          Kx_8 (decide (fmt = 103)) w24) ∧ (decide (fmt = 103) = false →
                          Kx_8 (decide (fmt = 71)) w24)))) → Kx_7 x256 w24) →
                    (decide (fmt = 101) = true →
                    Kx_7 (decide (fmt = 101)) w21) ∧ (decide (fmt = 101) = false →
                    Kx_7 (decide (fmt = 69)) w21)) → Kx_5 prec_2 w18) →
                  ∃ x173 : Bool, w7.cell? ⟨7, 0, none⟩ = some (.bool x173) ∧ 
                  (x173 = true →
                  ∀ Kx_9 : Int → Int → World → Prop, (∀ prec_4 : Int, ∀ digits : Int, ∀ w30,
                    ((decide (digits ≤ 18) = true →
                      ∀ w31, w31 = w30.alloc (.cells ⟨[.int .u8 0, .int .u8 0, .int .u8 0, .int .u8 0, .int .u8 0, .int .u8 0, .int .u8 0, .int .u8 0, .int .u8 0, .int .u8 0, .int .u8 0, .int .u8 0, .int .u8 0, .int .u8 0, .int .u8 0, .int .u8 0, .int .u8 0, .int .u8 0, .int .u8 0, .int .u8 0, .int .u8 0, .int .u8 0, .int .u8 0, .int .u8 0]⟩ 174) → 
                        ∀ Kx_10 : Int → Int → World → Prop, (∀ dp : Int, ∀ nd : Int, ∀ w32,
                        (Calls prog 221 ⟨[.slice dst dst_n dst_c, .bool neg, .slice (some (⟨w30.heap.size, 0, none⟩)) 24 24, .int .i64 dp, .int .i64 nd, .int .i64 prec_4, .int .u8 fmt, .bool false]⟩ w32 fun e w33 => ∃ (x245 : Option Addr) (x245_n x245_c : Nat), e = .returned (.slice x245 x245_n x245_c) ∧ 
                          R (.slice x245 x245_n x245_c) w33) → Kx_10 dp nd w32) →
                        (decide (0 < digits) = true →
                        Calls prog 173 ⟨[.int .u64 mant]⟩ w31 fun e w34 => ∃ x208 : Int, e = .returned (.int .i64 x208) ∧ 
                          ∃ x209 : Int, IntKind.i64.wrap (64 - x208) = x209 ∧ 
                          (0 : Int) ≤ x209 ∧ ∃ x212 : Int, IntKind.u64.wrap (mant * 2 ^ (min x209.toNat 64)) = x212 ∧ 
                          ∃ x215 : Int, IntKind.i64.wrap (x87 - x209) = x215 ∧ 
                          ∃ x220 : Int, IntKind.i64.wrap (x215 - mantBits) = x220 ∧ 
                          Calls prog 224 ⟨[.int .u64 x212, .int .i64 x220, .int .i64 digits, .int .i64 prec_4, .int .u8 fmt]⟩ w34 fun e w35 => ∃ x224 : Int, ∃ x224_1 : Int, e = .returned (.tuple ⟨[.int .u64 x224, .int .i64 x224_1]⟩) ∧ 
                          ((!decide (x224 = 0)) = true →
                          ∃ f_2 : List (Addr × Value), Kept w35 f_2 ∧
                            Calls prog 119 ⟨[.int .u64 x224]⟩ w35.drew fun e w36 => ∃ x234 : Int, e = .returned (.int .i64 x234) ∧ 
                            Calls prog 223 ⟨[.slice (some (⟨w30.heap.size, 0, none⟩)) 24 24, .int .u64 x224, .int .i64 x224_1, .int .i64 x234]⟩ w36 fun e w37 => ∃ x235 : Int, ∃ x235_1 : Int, e = .returned (.tuple ⟨[.int .i64 x235, .int .i64 x235_1]⟩) ∧ 
                            Kx_10 x235 x235_1 w37) ∧ ((!decide (x224 = 0)) = false →
                          Kx_10 0 0 w35)) ∧ (decide (0 < digits) = false →
                        Kx_10 0 0 w31)) ∧ (decide (digits ≤ 18) = false →
                      Kx_5 prec_4 w30)) → Kx_9 prec_4 digits w30) →
                    (decide (fmt = 102) = true →
                    (decide (0 ≤ x87) = true →
                      ∃ x181 : Int, IntKind.i64.wrap (1 + x87) = x181 ∧ 
                        Calls prog 172 ⟨[.int .i64 x181]⟩ w7 fun e w38 => ∃ x182 : Int, e = .returned (.int .i64 x182) ∧ 
                        ∃ x183 : Int, IntKind.i64.wrap (1 + x182) = x183 ∧ 
                        ∃ x185 : Int, IntKind.i64.wrap (x183 + prec) = x185 ∧ 
                        Kx_9 prec x185 w38) ∧ (decide (0 ≤ x87) = false →
                      ∃ x187 : Int, IntKind.i64.wrap (1 + prec) = x187 ∧ 
                        ∃ x189 : Int, IntKind.i64.wrap (0 - x87) = x189 ∧ 
                        Calls prog 172 ⟨[.int .i64 x189]⟩ w7 fun e w39 => ∃ x190 : Int, e = .returned (.int .i64 x190) ∧ 
                        ∃ x191 : Int, IntKind.i64.wrap (x187 - x190) = x191 ∧ 
                        Kx_9 prec x191 w39)) ∧ (decide (fmt = 102) = false →
                    ∀ Kx_11 : Bool → World → Prop, (∀ x192 : Bool, ∀ w40,
                      ((x192 = true →
                        ∃ x196 : Int, IntKind.i64.wrap (prec + 1) = x196 ∧ 
                          Kx_9 prec x196 w40) ∧ (x192 = false →
                        ∀ Kx_12 : Bool → World → Prop, (∀ x197 : Bool, ∀ w41,
                          ((x197 = true →
                            (decide (prec = 0) = true →
                              Kx_9 1 1 w41) ∧ (decide (prec = 0) = false →
                              Kx_9 prec prec w41)) ∧ (x197 = false →
                            Kx_9 prec 1 w41)) → Kx_12 x197 w41) →
                          (decide (fmt = 103) = true →
                          Kx_12 (decide (fmt = 103)) w40) ∧ (decide (fmt = 103) = false →
                          Kx_12 (decide (fmt = 71)) w40))) → Kx_11 x192 w40) →
                      (decide (fmt = 101) = true →
                      Kx_11 (decide (fmt = 101)) w7) ∧ (decide (fmt = 101) = false →
                      Kx_11 (decide (fmt = 69)) w7))) ∧ (x173 = false →
                  Kx_5 prec w7))))) → Kx_2 x102 w7) →
          (decide (fmt = 120) = true →
          Kx_2 true w5) ∧ (decide (fmt = 120) = false →
          Kx_2 (decide (fmt = 88)) w5)))
theorem bitLen_bounds (x : Nat) (h0 : x ≠ 0) (h : x < 2 ^ 53) : 1 ≤ Lib.bitLen x ∧ Lib.bitLen x ≤ 53 := by
  obtain ⟨h1, h2, h3⟩ := Lib.bitLenAux_bounds 64 x (by omega) h0
  refine ⟨h1, ?_⟩
  show Lib.bitLenAux 64 x ≤ 53
  rcases Nat.lt_or_ge 53 (Lib.bitLenAux 64 x) with h4 | h4
  · have : 2 ^ 53 ≤ 2 ^ (Lib.bitLenAux 64 x - 1) := Nat.pow_le_pow_right (by decide) (by omega)
    omega
  · exact h4
theorem midE_len (l : List UInt8) (nd : Nat) (pr : Int) (hnd : nd ≤ 20) (hpr : pr ≤ 20) : (midE l nd pr).length ≤ 45 := by
  unfold midE
  simp only []
  repeat' split
  all_goals simp only [List.length_append, List.length_cons, List.length_nil, List.length_take, List.length_drop, List.length_replicate]
  all_goals omega
theorem fracF_len (l : List UInt8) (dp : Int) (nd : Nat) (pr : Int) (hnd : nd ≤ 20) (hd0 : -10 ≤ dp) (hd1 : dp ≤ 10) (h0 : 0 ≤ pr) (hpr : pr ≤ 30) : (fracF l dp nd pr).length ≤ 61 := by
  unfold fracF
  simp only []
  repeat' split
  all_goals simp only [List.length_append, List.length_take, List.length_replicate, List.length_cons, List.length_nil, List.length_drop]
  all_goals omega
theorem efgF_len (neg : Bool) (l : List UInt8) (dp : Int) (nd : Nat) (prec : Int) (hnd : nd ≤ 20) (hp1 : prec ≤ 20) (hd0 : -400 ≤ dp) (hd1 : dp ≤ 500) : (efgF neg l dp nd prec).length ≤ 100 := by
  have hsg : (signF neg).length ≤ 1 := by unfold signF; split <;> simp
  unfold efgF
  split
  · rename_i h
    unfold eF
    have h1 := midE_len l nd ((if (nd : Int) < prec then (nd : Int) else prec) - 1) hnd (by split <;> omega)
    have h2 := expF_len (0 - exE dp nd)
    have h3 := expF_len (exE dp nd)
    have h4 : (if exE dp nd < 0 then 45 :: expF (0 - exE dp nd) else 43 :: expF (exE dp nd) : List UInt8).length ≤ 4 := by split <;> simp only [List.length_cons] <;> omega
    simp only [List.length_append, List.length_cons, List.length_nil]
    omega
  · rename_i h
    unfold fF
    have h1 : (intF l dp nd).length ≤ 20 := by
      unfold intF
      split
      · simp only [List.length_append, List.length_take, List.length_replicate]
        split <;> omega
      · simp
    obtain ⟨q, hq, hq0, hq1⟩ : ∃ q, q = (if 0 > (if dp < prec then (nd : Int) - dp else prec - dp) then 0 else (if dp < prec then (nd : Int) - dp else prec - dp)) ∧ 0 ≤ q ∧ q ≤ 30 := by
      refine ⟨_, rfl, ?_, ?_⟩
      · repeat' split
        all_goals omega
      · repeat' split
        all_goals omega
    rw [← hq]
    have h3 := fracF_len l dp nd q hnd (by omega) (by omega) hq0 hq1
    simp only [List.length_append]
    omega
theorem expF_asc (e : Int) (h0 : 0 ≤ e) (h1 : e ≤ 600) : asc (expF e) := by
  obtain ⟨k, rfl⟩ : ∃ k : Nat, e = k := ⟨e.toNat, by omega⟩
  have key : (List.range 601).all (fun k => (expF (k : Nat)).all fun b => decide (b.toNat < 128)) = true := by decide +kernel
  exact asc_dec (List.all_eq_true.1 key k (List.mem_range.2 (by omega)))
theorem signF_asc (neg : Bool) : asc (signF neg) := by cases neg <;> exact asc_dec (by decide)
theorem digN_asc (u nd : Nat) : asc (digN u nd) := by
  intro b hb
  obtain ⟨t, _, rfl⟩ := List.mem_map.1 hb
  unfold Lib.dg
  have : (UInt8.ofNat (48 + u / 10 ^ (nd - 1 - t) % 10)).toNat = 48 + u / 10 ^ (nd - 1 - t) % 10 := by rw [UInt8.toNat_ofNat']; omega
  omega
theorem fracF_asc {l : List UInt8} {dp : Int} {nd : Nat} {q : Int} (hl : asc l) : asc (fracF l dp nd q) := by
  unfold fracF
  by_cases h : 0 < q
  · rw [if_pos h]
    exact (((asc_dec (by decide)).app (asc_rep _)).app (asc.take (asc.drop hl))).app (asc_rep _)
  · rw [if_neg h]
    exact asc_dec (by decide)
theorem efgF_asc (neg : Bool) (l : List UInt8) (dp : Int) (nd : Nat) (prec : Int) (hl : asc l) (hd0 : -400 ≤ dp) (hd1 : dp ≤ 500) : asc (efgF neg l dp nd prec) := by
  unfold efgF
  split
  · unfold eF
    refine ((((signF_asc neg).app ?_).app ?_).app ?_).app ?_
    · intro b hb
      rw [List.mem_singleton] at hb
      subst hb
      split
      · decide
      · cases l with
        | nil => decide
        | cons a r => exact hl a (by simp)
    · unfold midE
      simp only []
      repeat' split
      all_goals first
        | exact ((asc_dec (by decide)).app (asc.take (asc.drop hl))).app (asc_rep _)
        | exact (asc_dec (by decide)).app (asc_rep _)
        | exact asc_dec (by decide)
    · exact asc_dec (by decide +kernel)
    · have hx : -500 ≤ exE dp nd ∧ exE dp nd ≤ 500 := by unfold exE; split <;> omega
      split
      · exact asc.app (a := [45]) (asc_dec (by decide)) (expF_asc _ (by omega) (by omega))
      · exact asc.app (a := [43]) (asc_dec (by decide)) (expF_asc _ (by omega) (by omega))
  · unfold fF
    refine ((signF_asc neg).app ?_).app ?_
    · unfold intF
      split
      · exact (asc.take hl).app (asc_rep _)
      · exact asc_dec (by decide)
    · exact fracF_asc hl
theorem in171 (neg : Bool) (exp mant : Int) (he0 : 1 ≤ exp) (he1 : exp ≤ 2046) (hm0 : 0 ≤ mant) (hm1 : mant < 9007199254740992) : ∃ out : List UInt8, (out.length ≤ 100 ∧ asc out) ∧
    ∀ (B : Nat) (w : World) (p : Option Addr) (n c : Nat) (R : Value → World → Prop), Tabs w → 15 < w.heap.size → Own B w p n c [] → B ≤ w.heap.size →
      (∀ p' n' c' w', Own B w' p' n' c' out → Gr B w w' → R (.slice p' n' c') w') → In171 p n c neg 71 (-1) 52 (-1023) exp mant w R := by
  by_cases hz : mant = 0
  · refine ⟨efgF neg [] 0 0 (-1), ⟨efgF_len _ _ _ _ _ (by decide) (by decide) (by decide) (by decide), efgF_asc _ _ _ _ _ (asc_dec rfl) (by decide) (by decide)⟩, fun B w p n c R ht h15 ho hB hR => ?_⟩
    unfold In171
    refine ⟨exp + -1023, i64w (by omega) (by omega), fun h => absurd (of_decide_eq_true h) (by decide), fun _ => ?_⟩
    intro K2 hK2
    refine ⟨fun h => absurd (of_decide_eq_true h) (by decide), fun _ => hK2 _ w ⟨fun h => absurd h (by decide), fun _ => ⟨fun _ => ?_, fun h => absurd hz (of_decide_eq_false h)⟩⟩⟩
    have := ret221 (acc := []) neg none 0 0 [] 0 0 (-1) ho hB (.inl rfl) (by simp) (by simp) (by simp) (by simp) (by simp) (by decide) (by decide) (by decide) (by decide)
    exact this.mono fun e w' ⟨p', n', c', he, ho', hg'⟩ => ⟨p', n', c', he, hR _ _ _ _ (by simpa using ho') hg'⟩
  · obtain ⟨M, rfl⟩ : ∃ M : Nat, mant = M := ⟨mant.toNat, by omega⟩
    have hM0 : M ≠ 0 := by omega
    obtain ⟨hb1, hb2⟩ := bitLen_bounds M hM0 (by omega)
    generalize hbl : Lib.bitLen M = bl at *
    obtain ⟨v, q, hv, hq0, hq1, hsf⟩ := ex228 (IntKind.u64.wrap ((M : Int) * 2 ^ (min ((64 : Int) - bl).toNat 64))) (exp + -1023 - (64 - bl) - 52) (u64_range _) (by omega) (by omega)
    obtain ⟨V, rfl⟩ : ∃ V : Nat, v = V := ⟨v.toNat, by unfold inU64 at hv; omega⟩
    have hV : V < 18446744073709551616 := by unfold inU64 at hv; omega
    obtain ⟨nd, hnd, hlt, hnum⟩ := ex119 V hV
    have htl := trimN_le (digN V nd) nd
    refine ⟨efgF neg (digN V nd) ((nd : Int) + q) (trimN (digN V nd) nd) (trimN (digN V nd) nd : Nat), ⟨efgF_len _ _ _ _ _ (by omega) (by omega) (by omega) (by omega), efgF_asc _ _ _ _ _ (digN_asc _ _) (by omega) (by omega)⟩, fun B w p n c R ht h15 ho hB hR => ?_⟩
    unfold In171
    refine ⟨exp + -1023, i64w (by omega) (by omega), fun h => absurd (of_decide_eq_true h) (by decide), fun _ => ?_⟩
    intro K2 hK2
    refine ⟨fun h => absurd (of_decide_eq_true h) (by decide), fun _ => hK2 _ w ⟨fun h => absurd h (by decide), fun _ => ⟨fun h => absurd (of_decide_eq_true h) hz, fun _ => ⟨fun _ => ?_, fun h => absurd h (by decide)⟩⟩⟩⟩
    clear hK2
    intro w10 hw10
    have hk10 : Keeps w w10 := by rw [hw10]; exact (Keeps.refl w).alloc _
    have hv10 : Var w10 w.heap.size 294 (List.replicate 32 zb) := by rw [hw10]; exact var_alloc w _ 294
    refine (bits_Len64 (M : Int) w10 (by omega) (by omega)).mono ?_
    rintro e w11 ⟨rfl, rfl⟩
    have hbl' : Lib.bitLen ((M : Int)).toNat = bl := hbl
    rw [hbl']
    refine ⟨_, rfl, 64 - (bl : Int), i64w (by omega) (by omega), by omega, _, rfl, exp + -1023 - (64 - bl), i64w (by omega) (by omega), exp + -1023 - (64 - bl) - 52, i64w (by omega) (by omega), ?_⟩
    refine (hsf w11 (ht.keeps hk10) (by have := hk10.size; omega)).go fun w12 hk12 => ⟨_, _, rfl, [], trivial, ?_⟩
    have hk12' := (hk10.trans hk12).drew
    refine (hnum w12.drew (ht.keeps hk12')).go fun w13 hk13 => ⟨_, rfl, ?_⟩
    have hk13' := hk12'.trans hk13
    have hk1013 := hk12.drew.trans hk13
    refine (ret223 V nd q hV hnd hlt hq0 hq1 w13 w.heap.size 294 (hv10.keeps hk1013)).mono ?_
    rintro e w14 ⟨rfl, hg14, hr14, cs14, hv14⟩
    have hk14 : Keeps w w14 := Below.grown hk13' hg14 hk13'.size (fun j hj => by cases hj; omega)
    refine ⟨_, _, rfl, ?_⟩
    intro K3 hK3 K4 hK4
    refine ⟨fun h => absurd (of_decide_eq_true h) (by decide), fun _ => hK4 _ w14 ⟨fun h => absurd h (by decide), fun _ => ⟨fun h => absurd (of_decide_eq_true h) (by decide), fun _ => ⟨fun h => absurd (of_decide_eq_true h) (by decide), fun _ => ⟨fun _ => ?_, fun h => absurd h (by decide)⟩⟩⟩⟩⟩
    refine hK3 _ w14 ?_
    have ho14 := ho.keeps hk14
    have := ret221 (acc := []) neg (some ⟨w.heap.size, 0, none⟩) 32 32 (digN V nd) ((nd : Int) + q) (trimN (digN V nd) nd) (trimN (digN V nd) nd : Nat) ho14 (Nat.le_trans hB hk14.size) (Src.of hv14 (by decide) hr14) (by rw [digN_len]; exact htl) (by rw [digN_len]; omega) (by omega) (by omega) (by simp) (by omega) (by omega) (by omega) (by omega)
    exact this.mono fun e w' ⟨p', n', c', he, ho', hg'⟩ => ⟨p', n', c', he, hR _ _ _ _ (by simpa using ho') ((Gr.of hk14 hB).trans hg')⟩
theorem tobits2 (x : Nat) (w : World) : (callFunc 218 ⟨[.float .f64 x]⟩).run prog w = .ok (.value (.int .u64 x)) w := by kernel_rfl
theorem ex171 (x : Nat) (hx : x < 18446744073709551616) : ∃ out : List UInt8, (out.length ≤ 100 ∧ asc out) ∧ ∀ (B : Nat) (w : World) (p : Option Addr) (n c : Nat), Tabs w → 15 < w.heap.size → Own B w p n c [] → B ≤ w.heap.size →
    Calls prog 171 ⟨[.slice p n c, .float .f64 x, .int .u8 71, .int .i64 (-1)]⟩ w fun e w' => ∃ p' n' c', e = .returned (.slice p' n' c') ∧ Own B w' p' n' c' out ∧ Gr B w w' := by
  have e63 : Int.fdiv (x : Int) (2 ^ (min (63 : Int).toNat 64)) = ((x / 2 ^ 63 : Nat) : Int) := fdiv_nat x 63
  have e52 : Int.fdiv (x : Int) (2 ^ (min (52 : Int).toNat 64)) = ((x / 2 ^ 52 : Nat) : Int) := fdiv_nat x 52
  have eexp : bits .and .i64 ((x / 2 ^ 52 : Nat) : Int) 2047 = ((x / 2 ^ 52 % 2048 : Nat) : Int) := by
    have := i64_and_nat (x / 2 ^ 52) 2047 (by omega) (by decide)
    rw [show (2047 : Nat) = 2 ^ 11 - 1 from rfl, Nat.and_two_pow_sub_one_eq_mod] at this
    exact this
  have emant : bits .and .u64 (x : Int) 4503599627370495 = ((x % 2 ^ 52 : Nat) : Int) := u64_mask x 52 hx (by decide)
  -- the common beginning
  have start : ∀ (B : Nat) (w : World) (p : Option Addr) (n c : Nat) (out : List UInt8),
      (∀ (R : Value → World → Prop), (∀ p' n' c' w', Own B w' p' n' c' out → Gr B w w' → R (.slice p' n' c') w') → VC171 p n c x 71 (-1) w R) →
      Calls prog 171 ⟨[.slice p n c, .float .f64 x, .int .u8 71, .int .i64 (-1)]⟩ w fun e w' => ∃ p' n' c', e = .returned (.slice p' n' c') ∧ Own B w' p' n' c' out ∧ Gr B w w' := by
    intro B w p n c out h
    have := c171 p n c x 71 (-1) w (fun v w' => ∃ p' n' c', v = .slice p' n' c' ∧ Own B w' p' n' c' out ∧ Gr B w w') (h _ fun p' n' c' w' ho hg => ⟨p', n', c', rfl, ho, hg⟩)
    exact this.mono fun e w' ⟨v, he, p', n', c', hv, h⟩ => ⟨p', n', c', by rw [he, hv], h⟩
  by_cases hE : x / 2 ^ 52 % 2048 = 2047
  · have spec : ∃ out : List UInt8, (out.length ≤ 100 ∧ asc out) ∧ ((¬ x % 2 ^ 52 = 0 ∧ out = [78, 97, 78]) ∨ (x % 2 ^ 52 = 0 ∧ ¬ x / 2 ^ 63 = 0 ∧ out = [45, 73, 110, 102]) ∨ (x % 2 ^ 52 = 0 ∧ x / 2 ^ 63 = 0 ∧ out = [43, 73, 110, 102])) := by
      by_cases h1 : x % 2 ^ 52 = 0
      · by_cases h2 : x / 2 ^ 63 = 0
        · exact ⟨_, ⟨by decide, asc_dec (by decide)⟩, .inr (.inr ⟨h1, h2, rfl⟩)⟩
        · exact ⟨_, ⟨by decide, asc_dec (by decide)⟩, .inr (.inl ⟨h1, h2, rfl⟩)⟩
      · exact ⟨_, ⟨by decide, asc_dec (by decide)⟩, .inl ⟨h1, rfl⟩⟩
    obtain ⟨out, hol, hout⟩ := spec
    refine ⟨out, hol, fun B w p n c ht h15 ho hB => start B w p n c out fun R hR => ?_⟩
    unfold VC171
    intro Kx hK
    refine ⟨fun h => absurd (of_decide_eq_true h) (by decide), fun _ => ⟨fun _ => ⟨_, w, tobits2 x w, ?_⟩, fun h => absurd h (by decide)⟩⟩
    refine hK _ _ _ _ w ⟨63, by decide, by decide, _, e63, by decide, _, e52, ((x / 2 ^ 52 : Nat) : Int), i64w (by omega) (by omega), by decide, 2048, by decide, 2047, by decide, _, eexp, by decide, 4503599627370496, by decide, 4503599627370495, by decide, _, emant, by decide, 2048, by decide, 2047, by decide, fun _ => ?_, fun h => absurd (of_decide_eq_false h) (by rw [hE]; decide)⟩
    have hod : Own B w.drew p n c [] := ho.drew
    have hkd : Gr B w w.drew := Gr.of (Keeps.refl w).drew hB
    rcases hout with ⟨h1, rfl⟩ | ⟨h1, h2, rfl⟩ | ⟨h1, h2, rfl⟩
    · refine ⟨fun _ => ?_, fun h => ?_⟩
      · obtain ⟨p', n', c', w', hr, ho', hg'⟩ := append_strT (l2 := [78, 97, 78]) hod hB (by simp) [false, true]
        exact ⟨p', n', c', w', hr, hR _ _ _ _ ho' (hkd.trans hg')⟩
      · simp only [Bool.not_eq_false', decide_eq_true_eq] at h; omega
    · refine ⟨fun h => ?_, fun _ => ⟨fun _ => ?_, fun h => ?_⟩⟩
      · simp only [Bool.not_eq_true', decide_eq_false_iff_not] at h; omega
      · obtain ⟨p', n', c', w', hr, ho', hg'⟩ := append_strT (l2 := [45, 73, 110, 102]) hod hB (by simp) [false, true]
        exact ⟨p', n', c', w', hr, hR _ _ _ _ ho' (hkd.trans hg')⟩
      · simp only [Bool.not_eq_false', decide_eq_true_eq] at h; omega
    · refine ⟨fun h => ?_, fun _ => ⟨fun h => ?_, fun _ => ?_⟩⟩
      · simp only [Bool.not_eq_true', decide_eq_false_iff_not] at h; omega
      · simp only [Bool.not_eq_true', decide_eq_false_iff_not] at h; omega
      · obtain ⟨p', n', c', w', hr, ho', hg'⟩ := append_strT (l2 := [43, 73, 110, 102]) hod hB (by simp) [false, true]
        exact ⟨p', n', c', w', hr, hR _ _ _ _ ho' (hkd.trans hg')⟩
  · have hor : ∃ V : Nat, bits .or .u64 ((x % 2 ^ 52 : Nat) : Int) 4503599627370496 = (V : Int) ∧ V < 9007199254740992 :=
      ⟨_, bits_or_u64_nat (x % 2 ^ 52) 4503599627370496 (by omega) (by decide), Nat.or_lt_two_pow (n := 53) (by omega) (by decide)⟩
    obtain ⟨V, hor, hV⟩ := hor
    obtain ⟨out, hol, hrun⟩ := in171 (!decide (((x / 2 ^ 63 : Nat) : Int) = 0)) (if x / 2 ^ 52 % 2048 = 0 then 1 else ((x / 2 ^ 52 % 2048 : Nat) : Int)) (if x / 2 ^ 52 % 2048 = 0 then ((x % 2 ^ 52 : Nat) : Int) else (V : Int)) (by split <;> omega) (by split <;> omega) (by split <;> omega) (by split <;> omega)
    refine ⟨out, hol, fun B w p n c ht h15 ho hB => start B w p n c out fun R hR => ?_⟩
    unfold VC171
    intro Kx hK
    refine ⟨fun h => absurd (of_decide_eq_true h) (by decide), fun _ => ⟨fun _ => ⟨_, w, tobits2 x w, ?_⟩, fun h => absurd h (by decide)⟩⟩
    refine hK _ _ _ _ w ⟨63, by decide, by decide, _, e63, by decide, _, e52, ((x / 2 ^ 52 : Nat) : Int), i64w (by omega) (by omega), by decide, 2048, by decide, 2047, by decide, _, eexp, by decide, 4503599627370496, by decide, 4503599627370495, by decide, _, emant, by decide, 2048, by decide, 2047, by decide, fun h => absurd (of_decide_eq_true h) (by omega), fun _ => ?_⟩
    have hkd : Gr B w w.drew := Gr.of (Keeps.refl w).drew hB
    have hin := hrun B w.drew p n c R (ht.keeps (Keeps.refl w).drew) h15 ho.drew hB (fun p' n' c' w' ho' hg' => hR _ _ _ _ ho' (hkd.trans hg'))
    intro K1 hK1
    refine ⟨fun h0 => ⟨1, by rw [of_decide_eq_true h0]; decide, ?_⟩, fun h0 => ⟨by decide, 4503599627370496, by decide, _, hor, ?_⟩⟩
    · have h0 : x / 2 ^ 52 % 2048 = 0 := by have := of_decide_eq_true h0; omega
      rw [if_pos h0, if_pos h0] at hin
      exact hK1 _ _ _ hin
    · have h0 : ¬ x / 2 ^ 52 % 2048 = 0 := by have := of_decide_eq_false h0; omega
      rw [if_neg h0, if_neg h0] at hin
      exact hK1 _ _ _ hin
theorem ex117 (x : Nat) (hx : x < 18446744073709551616) : ∃ out : List UInt8, (out.length ≤ 100 ∧ asc out) ∧ ∀ (w : World), Tabs w → 15 < w.heap.size → Ret 61 [.float .f64 x, .int .u8 71, .int .i64 (-1), .int .i64 64] w (.string (mkS out)) := by
  obtain ⟨out, hol, hrun⟩ := ex171 x hx
  refine ⟨out, hol, fun w ht h15 => ?_⟩
  have h117 : Ret 117 [.float .f64 x, .int .u8 71, .int .i64 (-1), .int .i64 64] w (.string (mkS out)) := by
    refine Ret.of (c117 _ _ _ _ w _ ?_)
    unfold VC117
    refine ⟨fun h => absurd (of_decide_eq_true h) (by decide), fun _ => ⟨fun _ => ⟨3, by decide, 24, by decide, ?_⟩, fun h => absurd h (by decide)⟩⟩
    obtain ⟨i, hi, hs, hby, hz⟩ := i5
    obtain ⟨w5, hr5, ho5, hg5⟩ := run_makeSlice_owned (P := prog) (w := w) w.heap.size 23 5 i (.int .u8 0) 1 u23 hi hz hs .i64 .i64 24 (by decide) (by rw [hby]; decide) (by decide) (Nat.le_refl _)
    have hk5 : Keeps w w5 := ⟨hg5.os, hg5.tape, hg5.output, hg5.size, fun k hk => hg5.block k hk (by simp)⟩
    have hown : Own w.heap.size w5 (some ⟨w.heap.size, 0, none⟩) 0 24 [] := ⟨ho5, rfl⟩
    refine ⟨_, _, _, w5, hr5, ?_⟩
    refine (hrun w.heap.size w5 _ _ _ (ht.keeps hk5) (by have := hk5.size; omega) hown hk5.size).mono ?_
    rintro e w6 ⟨p', n', c', rfl, ho6, hg6⟩
    exact ⟨_, _, _, rfl, _, w6, conv_string ho6.reads ho6.len, rfl, Below.trans hk5 hg6.below⟩
  exact Ret.of (c61 _ _ _ _ w _ (h117.go fun w1 hk1 => ⟨_, rfl, rfl, hk1⟩))
theorem exF : ∃ F : Nat → List UInt8, FloatIs F ∧ ∀ n, asc (F n) := by
  refine ⟨fun x => if h : x < 18446744073709551616 then (ex117 x h).choose else [], fun x => ⟨?_, fun hx w ht => ?_⟩, fun x => ?_⟩
  · show (if h : x < 18446744073709551616 then (ex117 x h).choose else []).length ≤ 100
    split
    · rename_i h; exact (ex117 x h).choose_spec.1.1
    · simp
  · show Ret 61 _ w (.string (mkS (if h : x < 18446744073709551616 then (ex117 x h).choose else [])))
    rw [dif_pos hx]
    exact (ex117 x hx).choose_spec.2 w ht ht.size
  · show asc (if h : x < 18446744073709551616 then (ex117 x h).choose else [])
    split
    · rename_i h; exact (ex117 x h).choose_spec.1.2
    · exact asc_dec rfl
end Go.Proofs.Tryz
/- The law FnTextCut answers true. -/
set_option linter.unusedVariables false
namespace Go.Proofs.Tryz
open Go.Vc Go.RowKit Go.Sort
theorem doc_kind (x : Val) : (docOf x).kind = 3 := by
  unfold docOf
  split
  · assumption
  · rfl
theorem ret4 (nx : Int) (h0 : -32768 ≤ nx) (h9 : nx ≤ 32767) (x : Val) (bp kp : Option Addr) (bc kc : Nat) (w : World) (P : Pre w)
    (hh : (decide (x.text.length ≤ 2147483647) && decide (x.more.length ≤ 2147483647) && decide (x.b.length ≤ 2147483647) && decide (x.kids.length ≤ 2147483647)) = true → Hangs 12 w x bp bc kp kc) :
    Ret 4 [.agg ⟨valCells x bp bc kp kc⟩, .int .i16 nx] w (.bool true) := by
  obtain ⟨F, hF, hA⟩ := exF
  refine Ret.of (c4 _ _ _ _ _ _ _ _ _ _ _ _ _ w _ ?_)
  unfold VC4
  intro w1 hw1
  have hk1 : Keeps w w1 := by rw [hw1]; exact (Keeps.refl w).alloc _
  have hv1 : Var w1 w.heap.size 26 (valCells x bp bc kp kc) := by rw [hw1]; exact var_alloc w _ 26
  clear hw1
  refine ⟨_, _, _, _, _, _, _, _, _, _, _, _, hv1.lies.row n26, ?_⟩
  refine (ret6 x bp kp bc kc w1 _ rfl).go fun w2 hk2 => ⟨_, rfl, fun _ => ⟨rfl, hk1.trans hk2⟩, fun hb => ?_⟩
  have hh := hh (bool_not_not hb)
  have hk02 := hk1.trans hk2
  refine ⟨_, _, _, _, _, _, _, _, _, _, _, _, (hv1.keeps hk2).lies.row n26, ?_⟩
  refine (ret7 x bp kp bc kc w2).mono ?_
  rintro e w3 ⟨bp', kp', bc', kc', rfl, hk3, hhd⟩
  have hh3 := hhd 11 (hh.keeps hk02)
  obtain ⟨y, hy⟩ : ∃ y, docOf x = y := ⟨_, rfl⟩
  have hy3 : y.kind = 3 := hy ▸ doc_kind x
  rw [hy] at hh3 ⊢
  refine ⟨_, rfl, fun w4 hw4 => ?_⟩
  obtain ⟨w5, hst, hk5, hs5, hv5⟩ := store_new (t := 26) (cs := valCells y bp' bc' kp' kc') hw4 n26 rfl rfl rfl
  have hk05 := (hk02.trans hk3).trans hk5
  have hh5 := hh3.keeps hk5
  refine ⟨w5, hst, _, _, _, _, _, _, _, _, _, _, _, _, hv5.lies.row n26, ?_⟩
  refine (ret11 hF y bp' kp' bc' kc' w5 (P.tabs.keeps hk05) hh5).go fun b w6 hbb hk6 => ⟨b, rfl, fun _ => ⟨rfl, hk05.trans hk6⟩, fun hbt => ?_⟩
  obtain ⟨hf, hr, hp, hl, he⟩ := hbb (bool_not_not hbt)
  have hk06 := hk05.trans hk6
  have P6 := P.keeps hk06
  have hh6 := (hh5.keeps hk6).down
  have hv6 := hv5.keeps hk6
  have ready := ready_of hF w6 P6.tabs 11 y bp' kp' bc' kc' hh6 hf hr hl he (by omega)
  refine ⟨_, _, _, _, _, _, _, _, _, _, _, _, hv6.lies.row n26, ?_⟩
  refine (ret12 hF 11 y bp' kp' bc' kc' w6 P6.tabs hh6 hf hr (by omega)).go fun w7 hk7 => ⟨_, rfl, kp', y.kids.length, kc', (hv6.keeps hk7).lies.at 7 rfl rfl, ?_⟩
  have hk07 := hk06.trans hk7
  refine (ret14d 11 y bp' kp' bc' kc' w7 (hh6.keeps hk7) hf hl (by omega)).go fun w8 p n c ho8 hg8 => ⟨_, _, _, rfl, ?_⟩
  have hk08 := hk07.trans hg8.keeps
  refine ⟨nx, i64w (by omega) (by omega), ?_⟩
  have hdb : bytesV 12 y = docB (bytesV 11) y.kids := by show bytesT (bytesV 11) y = _; unfold bytesT; rw [if_neg (by omega), if_neg (by omega), if_pos (.inl hy3)]
  have h13 : Ret 13 [.slice p n c, .int .i64 nx] w8 (cutV (longV F 12 y) nx) := by
    refine Ret.of (c13 _ _ _ _ w8 _ ?_)
    unfold VC13
    exact ((text_kids hF hA 11 y ready).2.1 hy3 p n c nx w8 (P.keeps hk08) (hdb ▸ ho8.reads) (by rw [ho8.len, hdb]) ho8.cap (by omega) (by omega)).go fun w9 hk9 => ⟨_, _, rfl, rfl, hk9⟩
  refine h13.go fun w9 hk9 => ⟨_, _, rfl, fun hneg => ?_, fun hneg => ?_⟩
  · have hneg := of_decide_eq_true hneg
    rw [nT_neg hneg, lessT_neg hneg]
    exact ⟨fun _ => ⟨rfl, hk08.trans hk9⟩, fun h => absurd rfl (of_decide_eq_false h)⟩
  · have hneg := of_decide_eq_false hneg
    obtain ⟨N, rfl⟩ : ∃ N : Nat, nx = N := ⟨nx.toNat, by omega⟩
    have htl : (longV F 12 y).length ≤ 50000000 := ready.own.tlen
    refine ⟨(N : Int), i64w (by omega) (by omega), (ret15 (longV F 12 y) N (by omega) (by omega) w9).go fun w10 hk10 => ⟨_, rfl, fun _ => ⟨(N : Int), i64w (by omega) (by omega), ?_, (hk08.trans hk9).trans hk10⟩, fun h => absurd ?_ (of_decide_eq_false h)⟩⟩
    · unfold lessT
      rw [decide_eq_true (by omega : (0 : Int) ≤ (N : Int)), Bool.true_and, beq_self_eq_true]
    · rw [nT_pos (by omega)]; rfl
end Go.Proofs.Tryz
/- The law FnTextCut, for every input that its row lets in. -/
set_option linter.unusedVariables false
set_option maxRecDepth 100000
namespace Go.Proofs.Tryz
open Go.Vc Go.RowKit Go.Lib Go.ChangeShapes Go.WideShapes
open Go.Proofs.YtfofafjemgfobaaGreatDoor
theorem f4_params : f4.params = #[26, 32] := by kernel_rfl
/-- The witness's arguments: the zero value, and 0. -/
def zeroArgsc : Array Value := #[.agg ⟨valCells (.mk 0 [] [] 0 0 0 [] []) none 0 none 0⟩, .int .i16 0]
theorem law_lifted_c (os : Os) (started : os.Started) (H : Type) (enc : TypeId × Value → H) :
    ReturnsInHanded {} Go.Proofs.Tryz.checked os 4 .any (fun w args => (Rows.fnTextCutSpec.pre enc prog f4 [] false w args ∧ laidMetH prog Rows.fnTextCutRow.laid w) ∧ sizedMet enc prog f4 (OpenSpec.ofChange Rows.fnTextCutSpec) false w args)
      (Rows.fnTextCutSpec.post enc prog f4 false true false false) := by
  refine returnsInHanded_of_change_and (C := Go.Proofs.Tryz.checked) (X := fun w _ => laidMetH prog Rows.fnTextCutRow.laid w) (fun _ _ _ hh h => h.of_heap hh) own_knob started (by kernel_rfl) func4
    (ChangeSpec.witness_shaped (enc := enc) (C := Go.Proofs.Tryz.checked) (os := os) (X := fun w _ => laidMetH prog Rows.fnTextCutRow.laid w) false (laidWorld os) zeroArgsc 8 rfl (shaped os _) (by kernel_rfl) (by kernel_rfl) (by kernel_rfl) (laid_met os _)) ?_
  intro W base args ds gs before hval0 hW _ hsz hL _
  have hL' : laidMetH prog Rows.fnTextCutRow.laid W := hL
  rw [Go.MakeChecks.laidMetH_plain _ _ _ no_handles] at hL'
  have rd := fun (i : Nat) (n : String) (d : DataW Unit) (h : Rows.fnTextCutRow.laid[i]? = some (n, d)) => Go.Lib.laidMet.reads hL' (List.mem_of_getElem? h)
  have T : Pre W := pre_of_reads (rd 3 _ _ rfl) (rd 9 _ _ rfl) (rd 7 _ _ rfl) (rd 10 _ _ rfl) (rd 4 _ _ rfl)
  have hval : ∀ (j : Nat) t v, f4.params[j]? = some t → args[j]? = some v → Value.okWide prog W .any base t v := hval0
  have hW' := hW
  obtain ⟨p, q, hA0, hV0, rfl, hfz, hnd⟩ := hW
  have hA : DataW.TrodAll enc prog W 0 (fun _ => true) true f4.params.toList args.toList ds p := hA0
  have hV : DataW.TrodVars enc prog W (fun _ => true) [] gs q := hV0
  obtain ⟨rfl, rfl⟩ := trodVars_none hV
  have hwt : (DataW.weightsEach prog f4.params.toList ds).all (· ≤ reachBytes) = true := by
    have := hsz
    simp only [List.append_nil] at this
    exact this
  rw [f4_params] at hA hval hwt
  obtain ⟨v0, v1, d0, d1, p0, p1, rfl, rfl, rfl, h0, h1⟩ := trodAll_two hA
  obtain ⟨b, rfl, rfl, rfl, hbw⟩ := open_int ut32 (hval 1 32 v1 rfl rfl) h1
  have hbr : -32768 ≤ b ∧ b ≤ 32767 := by
    simp only [Lit.wf, Bool.and_eq_true, decide_eq_true_eq] at hbw
    exact hbw
  obtain ⟨fuel, hf⟩ := h0
  obtain ⟨X, bp, kp, bc, kc, hcells, hh⟩ := open_val fuel _ _ hf (fun n hn => by
    have := List.all_eq_true.1 hwt n (DataW.weights_mem_each (j := 0) (t := 26) rfl rfl n hn)
    simpa using this)
  obtain ⟨fs26, hu26, _⟩ := fields26
  obtain ⟨cs, rfl, _⟩ := okWide_struct hu26 (hval 0 26 v0 rfl rfl)
  have hcs : cs = ⟨valCells X bp bc kp kc⟩ := by
    have : cs.toList = valCells X bp bc kp kc := hcells
    rw [← this]
  subst hcs
  refine (ret4 b hbr.1 hbr.2 X bp kp bc kc W T (fun _ => hh 12)).mono fun e W' ⟨he, hk⟩ => ?_
  subst he
  have e1 : Rows.fnTextCutSpec.fn H ([d0, .lit (.int .i16 b)] ++ []) = { results := [.lit (.bool true)], args := [d0, .lit (.int .i16 b)] } := by simp [Rows.fnTextCutSpec]
  have hold : ∀ x ∈ p0, (fun k => decide (k < W.heap.size)) x.block = true := fun x hx => by
    have := DataW.trod_lt _ _ _ _ hf x hx
    simpa using this
  have hcarry : DataW.trod enc prog W' 0 (fun k => decide (k < W.heap.size)) true fuel 26 (valCells X bp bc kp kc) = some (d0, p0) :=
    DataW.trod_respare kids_all slices_full _ _ _ _ (by show 26 < prog.types.size; rw [types_size382]; decide) (DataW.trod_carry _ _ _ _ hf fun x hx => Below.same hk (DataW.trod_lt _ _ _ _ hf x hx)) hold
  refine ⟨_, rfl, [d0, .lit (.int .i16 b)], [], p0 ++ [] ++ [], [], p0 ++ [], [], hW', ?_, ?_, ?_, Below.frame hk _, fun h => by cases h⟩
  · rw [e1]; exact trodAll_mk1 (shut_bool ut4 true)
  · rw [e1, f4_params]; exact trodAll_mk2 ⟨fuel, hcarry⟩ (shut_int ut32 hbw)
  · rw [e1]; rfl
end Go.Proofs.Tryz
