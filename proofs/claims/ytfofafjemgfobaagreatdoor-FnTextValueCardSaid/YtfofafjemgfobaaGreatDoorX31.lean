/- Parts of a proof, joined: B40, B41, V2, B42, B43. -/
import Derived.Test.YtfofafjemgfobaaGreatDoorX29
import Derived.Test.YtfofafjemgfobaaGreatDoorX21
import Derived.Test.YtfofafjemgfobaaGreatDoorX23
import Derived.Test.YtfofafjemgfobaaGreatDoorX24
import Derived.Test.YtfofafjemgfobaaGreatDoorX30
import Derived.Test.YtfofafjemgfobaaGreatDoorX4
set_option linter.unusedVariables false
namespace Go.Proofs.Tryz
open Go.Vc Go.RowKit Go.Sort
theorem esc_letters : ∀ (s : List UInt8), (∀ b ∈ s, 97 ≤ b.toNat ∧ b.toNat ≤ 122) → escF true s = s
  | [], _ => rfl
  | a :: r, h => by
    have ha := h a (by simp)
    have er : runeF (a :: r) = (1, a.toNat) := by rw [runeF, if_pos (by omega)]
    have es : stepF (a :: r) = (1, a.toNat, true) := by unfold stepF; rw [er, if_neg Nat.one_ne_zero]
    rw [escF_cons true _ (by simp), es]
    simp only [List.take_succ_cons, List.take_zero, List.drop_succ_cons, List.drop_zero]
    rw [esc_letters r fun b hb => h b (List.mem_cons_of_mem _ hb)]
    unfold piece
    rw [if_neg (by omega), if_neg (by omega), if_neg (by omega), if_neg (by omega)]
    rfl
theorem str_letters {s : List UInt8} (h : lettersUp s) : strF true s = 34 :: (s ++ [34]) := by unfold strF; rw [esc_letters s h.1]
theorem b8_num {n : Int} (h0 : 0 ≤ n) (h1 : n ≤ 255) : (b8 n).toNat = (n % 256).toNat := by
  have := b8_toNat n
  omega
theorem ret52 {F : Nat → List UInt8} (hF : FloatIs F) (hA : ∀ n, asc (F n)) (d : Nat) (x : Val) (ho : OwnReady F d x) (hsu : utf8F (longV F (d + 1) x) = true)
    (h45 : x.kind = 3 → ∀ (p : Option Addr) (n c : Nat) (nx : Int) (w : World), Pre w → ReadsB w p (bytesV (d + 1) x) → n = (bytesV (d + 1) x).length → n ≤ c → -1000000 ≤ nx → nx ≤ 1000000 → Ret 45 [.slice p n c, .int .i64 nx] w (cutV (longV F (d + 1) x) nx))
    (h85 : x.kind = 4 → ∀ (p : Option Addr) (n c : Nat) (nx : Int) (w : World), Pre w → ReadsB w p (bytesV (d + 1) x) → n = (bytesV (d + 1) x).length → n ≤ c → -1000000 ≤ nx → nx ≤ 1000000 → Ret 85 [.slice p n c, .int .i64 nx] w (cutV (longV F (d + 1) x) nx)) :
    Val52 F d x := by
  intro p n c nx w hw hr hn hc h0 h9
  obtain ⟨hown, hright, hcode, hplain, hbody⟩ := ho.good
  have htu := textF_utf8 hown.1
  have htl := textF_len hown.1
  have hml := textF_len hown.2.1
  have hxb := hown.2.2.1
  have hnum := ho.num
  have hbits := ho.bits
  have hhigh := ho.high
  unfold inI64 at hnum
  unfold inU64 at hbits hhigh
  obtain ⟨B, hB⟩ : ∃ B : Nat, x.bits = B := ⟨x.bits.toNat, by omega⟩
  obtain ⟨H, hH⟩ : ∃ H : Nat, x.high = H := ⟨x.high.toNat, by omega⟩
  have hBn : x.bits.toNat = B := by omega
  have hHn : x.high.toNat = H := by omega
  have eV : bytesV (d + 1) x = bytesT (bytesV d) x := rfl
  have eT : ∃ ks, x.kind ≠ 3 → x.kind ≠ 4 → longV F (d + 1) x = ownT F true true ks x := by
    refine ⟨fun three => kidsT true three (x.kids.map fun p => (p.1, textV F true true d p.2)), fun h3 h4 => ?_⟩
    show longT (longV F d) (textV F true true (d + 1)) x = _
    unfold longT
    rw [if_neg h3, if_neg h4]
    rfl
  obtain ⟨ks, eT⟩ := eT
  have hblen := ho.blen
  have htlen := ho.tlen
  refine Ret.of (c52 _ p n c nx w _ ?_)
  unfold VC52
  intro w1 hw1
  have hk1 : Keeps w w1 := by rw [hw1]; exact (Keeps.refl w).alloc _
  have hv1 : Var w1 w.heap.size 92 [.int .u8 x.kind, .slice p n c] := by rw [hw1]; exact var_alloc w _ 92
  have hr1 := hr.keeps hk1
  have pw : ∀ w', Keeps w w' → Pre w' := fun w' k => hw.keeps k
  intro Kx hK
  have key : ∀ (w2 : World) (str : List UInt8), Keeps w w2 → longV F (d + 1) x = str → Kx str w2 := by
    intro w2 str hk2 e
    subst e
    refine hK _ w2 ⟨fun h => ⟨fun hx => ?_, fun hx => ?_⟩, fun h => ?_⟩
    · have h := of_decide_eq_true h
      have hx := of_decide_eq_true hx
      obtain ⟨N, rfl⟩ : ∃ N : Nat, nx = N := ⟨nx.toNat, by omega⟩
      refine (ret108 _ N hsu (by omega) (by omega) w2).go fun w3 hk3 => ⟨_, rfl, ?_, hk2.trans hk3⟩
      unfold cutV
      rw [nT_pos h, lessT_true h hx]; rfl
    · have hx := of_decide_eq_false hx
      refine ⟨?_, hk2⟩
      unfold cutV
      rw [nT_full hsu (by omega), lessT_false (by omega)]
    · have h := of_decide_eq_false h
      refine ⟨?_, hk2⟩
      unfold cutV
      rw [nT_neg (by omega), lessT_neg (by omega)]
  have row : LoadsRow prog 92 w1 ⟨w.heap.size, 0, none⟩ [.int .u8 x.kind, .slice p n c] := hv1.lies.row n92
  have no : ∀ {b : Bool}, (!true) = b → b = false := fun h => h.symm
  have docV : x.kind = 3 ∨ x.kind = 4 → ∃ m, bytesV (d + 1) x = le32 ((bytesV (d + 1) x).length : Int) ++ m ∧ 4 ≤ (bytesV (d + 1) x).length := by
    intro hk
    have hdb : bytesV (d + 1) x = docB (bytesV d) x.kids := by rw [eV]; unfold bytesT; rw [if_neg (by omega), if_neg (by omega), if_pos hk]
    have e5 : docB (bytesV d) x.kids = le32 (((bodyB (bytesV d) x.kids).length : Int) + 5) ++ (bodyB (bytesV d) x.kids ++ [0]) := by unfold docB; rw [List.append_assoc]
    have el := congrArg List.length e5
    simp only [List.length_append, le32_len, List.length_cons, List.length_nil] at el
    refine ⟨bodyB (bytesV d) x.kids ++ [0], ?_, by rw [hdb]; omega⟩
    rw [hdb]
    have e6 : ((docB (bytesV d) x.kids).length : Int) = ((bodyB (bytesV d) x.kids).length : Int) + 5 := by omega
    rw [e6]; exact e5
  refine ⟨x.kind, hv1.lies.at 0 rfl rfl, fun h => ?_, fun h2 => ⟨fun h => ?_, fun h3 => ⟨fun h => ?_, fun h4 => ⟨fun h => ?_, fun h1 => ⟨fun h => ?_, fun h5 => ⟨fun h => ?_, fun h6 => ⟨fun h => ?_, fun h7 => ⟨fun h => ?_, fun h8 => ⟨fun h => ?_, fun h9' => ⟨fun h => ?_, fun h10 =>
    ⟨fun h => ?_, fun h11 => ⟨fun h => ?_, fun h12 => ⟨fun h => ?_, fun h13 => ⟨fun h => ?_, fun h14 => ⟨fun h => ?_, fun h15 => ⟨fun h => ?_, fun h16 => ⟨fun h => ?_, fun h17 => ⟨fun h => ?_, fun h18 => ⟨fun h => ?_, fun h19 => ⟨fun h => ?_, fun h255 => ⟨fun h => ?_, fun h127 => ?_⟩⟩⟩⟩⟩⟩⟩⟩⟩⟩⟩⟩⟩⟩⟩⟩⟩⟩⟩⟩⟩
  · have h : x.kind = 2 := of_decide_eq_true h
    have hv : bytesV (d + 1) x = docText x.text := by rw [eV]; unfold bytesT; rw [if_neg (by omega), if_pos (.inl h)]
    have hc1 := ret81 x.text p n c w1 (by omega) (hv ▸ hr1) (by rw [hn, hv]) hc
    rw [← h] at hc1
    refine ⟨_, _, _, _, row, hc1.go fun w4 hk4 => ⟨_, _, rfl, (fun h => by cases h), fun _ => ?_⟩⟩
    have hk4' := hk1.trans hk4
    have hp := pw w4 hk4'
    exact (ret82 x.text w4 htu (by omega) hp.esc (by have := hp.tabs.size; omega)).go fun w5 hk5 => ⟨_, rfl, key _ _ (hk4'.trans hk5) (by rw [eT (by omega) (by omega)]; simp [ownT, h])⟩
  · have h : x.kind = 3 := of_decide_eq_true h
    obtain ⟨m, hv, hv4⟩ := docV (.inl h)
    have hc1 := ret83 _ m hv hv4 p n c w1 hr1 hn hc (by omega)
    rw [← h] at hc1
    refine ⟨_, _, _, _, row, hc1.go fun w4 hk4 => ⟨_, _, _, _, rfl, (fun h => by cases h), fun _ => ?_⟩⟩
    have hk4' := hk1.trans hk4
    exact (h45 h p n c nx w4 (pw w4 hk4') (hr1.keeps hk4) hn hc h0 h9).go fun w5 hk5 => ⟨_, _, rfl, rfl, hk4'.trans hk5⟩
  · have h : x.kind = 4 := of_decide_eq_true h
    obtain ⟨m, hv, hv4⟩ := docV (.inr h)
    have hc1 := ret84 _ m hv hv4 p n c w1 hr1 hn hc (by omega)
    rw [← h] at hc1
    refine ⟨_, _, _, _, row, hc1.go fun w4 hk4 => ⟨_, _, _, _, rfl, (fun h => by cases h), fun _ => ?_⟩⟩
    have hk4' := hk1.trans hk4
    exact (h85 h p n c nx w4 (pw w4 hk4') (hr1.keeps hk4) hn hc h0 h9).go fun w5 hk5 => ⟨_, _, rfl, rfl, hk4'.trans hk5⟩
  · have h : x.kind = 1 := of_decide_eq_true h
    have hv : bytesV (d + 1) x = le64 (B : Int) := by rw [eV]; unfold bytesT; rw [if_pos (.inl h), hB]
    have hc1 := ret86 B p n c w1 (by omega) (hv ▸ hr1) (by rw [hn, hv]) hc
    rw [← h] at hc1
    refine ⟨_, _, _, _, row, hc1.go fun w4 hk4 => ⟨_, _, rfl, (fun h => by cases h), fun _ => ?_⟩⟩
    have hk4' := hk1.trans hk4
    have hne := ho.noE h
    rw [hBn] at hne
    have hl := dblF_len hF B w hw.tabs
    refine (ret87 hF B (by omega) hne w4 (pw w4 hk4').tabs).go fun w5 hk5 => ⟨_, rfl, ?_, ?_, key _ _ (hk4'.trans hk5) ?_⟩
    · simp only [List.length_cons, List.length_nil]; omega
    · simp only [List.length_append, List.length_cons, List.length_nil]; omega
    · rw [eT (by omega) (by omega)]; simp [ownT, num1F, wrapF, h, hBn]
  · have h : x.kind = 5 := of_decide_eq_true h
    obtain ⟨hn0, hn1⟩ := hright.2.2.2.2.2 h
    have hb8 := b8_num hn0 hn1
    have hv : bytesV (d + 1) x = (if x.num = 2 then le32 ((x.b.length : Int) + 4) ++ [2] ++ le32 (x.b.length : Int) else le32 (x.b.length : Int) ++ [b8 x.num]) ++ x.b := by
      rw [eV]; unfold bytesT; rw [if_neg (by omega), if_neg (by omega), if_neg (by omega), if_pos h]
    have hc1 := ret88 x.num x.b p n c w1 hxb _ hv (fun hne => by omega) hr1 hn hc
    rw [← h] at hc1
    refine ⟨_, _, _, _, row, hc1.mono ?_⟩
    rintro _ w4 ⟨q, k, rfl, hqk, hrq, hk4⟩
    have hk4' := hk1.trans hk4
    refine ⟨_, _, _, _, _, rfl, (fun h => by cases h), fun _ => ?_⟩
    have hl := b64F_len x.b.length x.b (Nat.le_refl _)
    have hl2 := hex2_len (b8 x.num).toNat
    refine (ret89 q k x.b w4 hrq hqk (by omega)).go fun w5 hk5 => ⟨_, rfl, ?_, ?_, (ret90 (b8 x.num).toNat (byte_lt _) w5).go fun w6 hk6 => ⟨_, rfl, ?_, ?_, key _ _ ((hk4'.trans hk5).trans hk6) ?_⟩⟩
    · simp only [List.length_cons, List.length_nil]; omega
    · simp only [List.length_append, List.length_cons, List.length_nil]; omega
    · simp only [List.length_append, List.length_cons, List.length_nil]; omega
    · simp only [List.length_append, List.length_cons, List.length_nil]; omega
    · rw [eT (by omega) (by omega), hb8]; simp [ownT, wrapF, h]
  · have h : x.kind = 6 := of_decide_eq_true h
    exact key _ _ hk1 (by rw [eT (by omega) (by omega)]; simp [ownT, wrapF, h])
  · have h : x.kind = 7 := of_decide_eq_true h
    have hv : bytesV (d + 1) x = x.b := by rw [eV]; unfold bytesT; rw [if_neg (by omega), if_neg (by omega), if_neg (by omega), if_neg (by omega), if_pos h]
    have h12 := hright.2.1 (.inl h)
    have hc1 := ret91 p n c x.b h12 w1 (hv ▸ hr1) (by rw [hn, hv]) hc
    rw [← h] at hc1
    refine ⟨_, _, _, _, row, hc1.go fun w4 hk4 => ⟨_, _, rfl, fun w5 hw5 => ?_⟩⟩
    obtain ⟨b0, b1, b2, b3, b4, b5, b6, b7, b8', b9, b10, b11, hb⟩ := cellsT h12
    obtain ⟨w6, hst6, hk6, hs6, hv6⟩ := store_new (t := 147) (n := 12) (cs := bc x.b) hw5 nT rfl (by rw [bc_length, h12]) (by rw [hb]; rfl)
    have hk6' := (hk1.trans hk4).trans hk6
    refine ⟨w6, hst6, (fun h => by cases h), fun _ => ?_⟩
    have hrow := hv6.lies.row (t := 147) (by rw [bc_length, h12]; exact nT)
    have h92 := ret92 x.b h12 w6
    rw [hb] at hrow h92
    have hl := hexAll_len x.b
    refine ⟨_, _, _, _, _, _, _, _, _, _, _, _, hrow, h92.go fun w7 hk7 => ⟨_, rfl, ?_, ?_, key _ _ (hk6'.trans hk7) ?_⟩⟩
    · rw [← hb]; simp only [List.length_cons, List.length_nil]; omega
    · rw [← hb]; simp only [List.length_append, List.length_cons, List.length_nil]; omega
    · rw [eT (by omega) (by omega), ← hb]; simp [ownT, wrapF, idF, h]
  · have h : x.kind = 8 := of_decide_eq_true h
    have hv : bytesV (d + 1) x = [b8 x.num] := by rw [eV]; unfold bytesT; rw [if_neg (by omega), if_neg (by omega), if_neg (by omega), if_neg (by omega), if_neg (by omega), if_pos h]
    have hc1 := ret93 x.num p n c w1 (hright.2.2.1 h) (hv ▸ hr1) (by rw [hn, hv]; rfl) hc
    rw [← h] at hc1
    refine ⟨_, _, _, _, row, hc1.go fun w4 hk4 => ⟨_, _, rfl, (fun h => by cases h), fun _ => ?_⟩⟩
    exact (ret94 _ w4).go fun w5 hk5 => ⟨_, rfl, key _ _ ((hk1.trans hk4).trans hk5) (by rw [eT (by omega) (by omega)]; simp [ownT, h])⟩
  · have h : x.kind = 9 := of_decide_eq_true h
    have hv : bytesV (d + 1) x = le64 (IntKind.u64.wrap x.num) := by rw [eV]; unfold bytesT; rw [if_neg (by omega), if_neg (by omega), if_neg (by omega), if_neg (by omega), if_neg (by omega), if_neg (by omega), if_pos (.inl h)]
    have hc1 := ret95 x.num p n c w1 hnum.1 hnum.2 (hv ▸ hr1) (by rw [hn, hv]) hc
    rw [← h] at hc1
    refine ⟨_, _, _, _, row, hc1.go fun w4 hk4 => ⟨_, _, rfl, (fun h => by cases h), fun _ => ?_⟩⟩
    have hk4' := hk1.trans hk4
    have hl := decNum_len' x.num hnum.1 hnum.2
    refine (ret34 x.num hnum.1 hnum.2 w4 (pw w4 hk4').tabs.pow).go fun w5 hk5 => ⟨_, rfl, ?_, ?_, key _ _ (hk4'.trans hk5) ?_⟩
    · simp only [List.length_cons, List.length_nil]; omega
    · simp only [List.length_append, List.length_cons, List.length_nil]; omega
    · rw [eT (by omega) (by omega)]; simp [ownT, wrapF, h]
  · have h : x.kind = 10 := of_decide_eq_true h
    exact key _ _ hk1 (by rw [eT (by omega) (by omega)]; simp [ownT, h])
  · have h : x.kind = 11 := of_decide_eq_true h
    have hup := hown.2.2.2.2.2 h
    have hv : bytesV (d + 1) x = x.text ++ [0] ++ x.more ++ [0] := by rw [eV]; unfold bytesT; rw [if_neg (by omega), if_neg (by omega), if_neg (by omega), if_neg (by omega), if_neg (by omega), if_neg (by omega), if_neg (by omega), if_neg (by omega), if_pos h]
    have hc1 := ret96 x.text x.more p n c w1 (hplain h) (not_zero_letters hup) (hv ▸ hr1) (by rw [hn, hv]) hc (by omega)
    rw [← h] at hc1
    refine ⟨_, _, _, _, row, hc1.go fun w4 hk4 => ⟨_, _, _, rfl, (fun h => by cases h), fun _ => ?_⟩⟩
    have hk4' := hk1.trans hk4
    have hp := pw w4 hk4'
    have hl := strF_len true x.text
    refine (ret82 x.text w4 htu (by omega) hp.esc (by have := hp.tabs.size; omega)).go fun w5 hk5 => ⟨_, rfl, ?_, ?_, (ret97 x.more hup hml w5).go fun w6 hk6 => ⟨_, rfl, ?_, ?_, key _ _ ((hk4'.trans hk5).trans hk6) ?_⟩⟩
    · simp only [List.length_cons, List.length_nil]; omega
    · simp only [List.length_append, List.length_cons, List.length_nil]; omega
    · simp only [List.length_append, List.length_cons, List.length_nil]; omega
    · simp only [List.length_append, List.length_cons, List.length_nil]; omega
    · rw [eT (by omega) (by omega)]; simp [ownT, wrapF, h, str_letters hup]
  · have h : x.kind = 12 := of_decide_eq_true h
    have hv : bytesV (d + 1) x = docText x.text ++ x.b := by rw [eV]; unfold bytesT; rw [if_neg (by omega), if_neg (by omega), if_neg (by omega), if_neg (by omega), if_neg (by omega), if_neg (by omega), if_neg (by omega), if_neg (by omega), if_neg (by omega), if_pos h]
    have h12 := hright.2.1 (.inr h)
    have hc1 := ret98 p n c x.text x.b (by omega) h12 w1 (hv ▸ hr1) (by rw [hn, hv]) hc
    rw [← h] at hc1
    refine ⟨_, _, _, _, row, hc1.go fun w4 hk4 => ⟨_, _, _, rfl, fun w5 hw5 => ?_⟩⟩
    obtain ⟨b0, b1, b2, b3, b4, b5, b6, b7, b8', b9, b10, b11, hb⟩ := cellsT h12
    obtain ⟨w6, hst6, hk6, hs6, hv6⟩ := store_new (t := 147) (n := 12) (cs := bc x.b) hw5 nT rfl (by rw [bc_length, h12]) (by rw [hb]; rfl)
    have hk6' := (hk1.trans hk4).trans hk6
    refine ⟨w6, hst6, (fun h => by cases h), fun _ => ?_⟩
    have hkept := hv6.lies.kept
    have h92 := fun w => ret92 x.b h12 w
    have mem : ∀ (j : Nat) (v : Value), (bc x.b)[j]? = some v → ((⟨w4.heap.size, 0, none⟩ : Addr).add j, v) ∈ rowFacts w4.heap.size 0 (bc x.b) := fun j v hj => mem_rowFacts_add hj
    have hlb : (bc x.b).length = 12 := by rw [bc_length, h12]
    have hcl : cellsOf' prog 147 = some (bc x.b).length := by rw [hlb]; exact nT
    have hp := pw w6.drew hk6'.drew
    have hl := strF_len true x.text
    have hl2 := hexAll_len x.b
    obtain ⟨fct, hfct⟩ : ∃ f, f = rowFacts w4.heap.size 0 (bc x.b) := ⟨_, rfl⟩
    rw [← hfct] at mem hkept
    rw [hb] at mem hcl h92
    refine ⟨_, hkept, _, _, _, _, _, _, _, _, _, _, _, _, ⟨hcl, mem⟩, ?_⟩
    refine (ret82 x.text w6.drew htu (by omega) hp.esc (by have := hp.tabs.size; omega)).go fun w7 hk7 => ⟨_, rfl, kept_keeps hkept (Keeps.trans (Keeps.refl w6).drew hk7), ?_, ?_, (h92 w7).go fun w8 hk8 => ⟨_, rfl, ?_, ?_, key _ _ ((hk6'.drew.trans hk7).trans hk8) ?_⟩⟩
    · simp only [List.length_cons, List.length_nil]; omega
    · simp only [List.length_append, List.length_cons, List.length_nil]; omega
    · rw [← hb]; simp only [List.length_append, List.length_cons, List.length_nil]; omega
    · rw [← hb]; simp only [List.length_append, List.length_cons, List.length_nil]; omega
    · rw [eT (by omega) (by omega), ← hb]; simp [ownT, wrapF, idF, h]
  · have h : x.kind = 13 := of_decide_eq_true h
    have hv : bytesV (d + 1) x = docText x.text := by rw [eV]; unfold bytesT; rw [if_neg (by omega), if_pos (.inr (.inl h))]
    have hc1 := ret99 x.text p n c w1 (by omega) (hv ▸ hr1) (by rw [hn, hv]) hc
    rw [← h] at hc1
    refine ⟨_, _, _, _, row, hc1.go fun w4 hk4 => ⟨_, _, rfl, (fun h => by cases h), fun _ => ?_⟩⟩
    have hk4' := hk1.trans hk4
    have hp := pw w4 hk4'
    have hl := strF_len true x.text
    refine (ret82 x.text w4 htu (by omega) hp.esc (by have := hp.tabs.size; omega)).go fun w5 hk5 => ⟨_, rfl, ?_, ?_, key _ _ (hk4'.trans hk5) ?_⟩
    · simp only [List.length_cons, List.length_nil]; omega
    · simp only [List.length_append, List.length_cons, List.length_nil]; omega
    · rw [eT (by omega) (by omega)]; simp [ownT, wrapF, h]
  · have h : x.kind = 14 := of_decide_eq_true h
    have hv : bytesV (d + 1) x = docText x.text := by rw [eV]; unfold bytesT; rw [if_neg (by omega), if_pos (.inr (.inr h))]
    have hc1 := ret100 x.text p n c w1 (by omega) (hv ▸ hr1) (by rw [hn, hv]) hc
    rw [← h] at hc1
    refine ⟨_, _, _, _, row, hc1.go fun w4 hk4 => ⟨_, _, rfl, (fun h => by cases h), fun _ => ?_⟩⟩
    have hk4' := hk1.trans hk4
    have hp := pw w4 hk4'
    have hl := strF_len true x.text
    refine (ret82 x.text w4 htu (by omega) hp.esc (by have := hp.tabs.size; omega)).go fun w5 hk5 => ⟨_, rfl, ?_, ?_, key _ _ (hk4'.trans hk5) ?_⟩
    · simp only [List.length_cons, List.length_nil]; omega
    · simp only [List.length_append, List.length_cons, List.length_nil]; omega
    · rw [eT (by omega) (by omega)]; simp [ownT, wrapF, h]
  · exact absurd (of_decide_eq_true h) hcode
  · have h : x.kind = 16 := of_decide_eq_true h
    have hv : bytesV (d + 1) x = le32 x.num := by rw [eV]; unfold bytesT; rw [if_neg (by omega), if_neg (by omega), if_neg (by omega), if_neg (by omega), if_neg (by omega), if_neg (by omega), if_neg (by omega), if_pos h]
    have h32 := hright.2.2.2.1 h
    have hc1 := ret103 x.num p n c w1 h32.1 (by omega) (hv ▸ hr1) (by rw [hn, hv]) hc
    rw [← h] at hc1
    refine ⟨_, _, _, _, row, hc1.go fun w4 hk4 => ⟨_, _, rfl, (fun h => by cases h), fun _ => ?_⟩⟩
    have hk4' := hk1.trans hk4
    have hl := decNum_len' x.num hnum.1 hnum.2
    refine ⟨x.num, i64w hnum.1 hnum.2, (ret34 x.num hnum.1 hnum.2 w4 (pw w4 hk4').tabs.pow).go fun w5 hk5 => ⟨_, rfl, ?_, ?_, key _ _ (hk4'.trans hk5) ?_⟩⟩
    · simp only [List.length_cons, List.length_nil]; omega
    · simp only [List.length_append, List.length_cons, List.length_nil]; omega
    · rw [eT (by omega) (by omega)]; simp [ownT, wrapF, h]
  · have h : x.kind = 17 := of_decide_eq_true h
    have hv : bytesV (d + 1) x = le64 (B : Int) := by rw [eV]; unfold bytesT; rw [if_pos (.inr h), hB]
    have hc1 := ret104 B p n c w1 (by omega) (hv ▸ hr1) (by rw [hn, hv]) hc
    rw [← h] at hc1
    refine ⟨_, _, _, _, row, hc1.go fun w4 hk4 => ⟨_, _, _, rfl, (fun h => by cases h), fun _ => ?_⟩⟩
    have hk4' := hk1.trans hk4
    have hd1 : B / 2 ^ 32 < 18446744073709551616 := by omega
    have hd2 : B % 2 ^ 32 < 18446744073709551616 := by omega
    have hl := decF_len64 _ hd1
    have hl2 := decF_len64 _ hd2
    refine ⟨((B / 2 ^ 32 : Nat) : Int), u64w (by omega) (by omega), (ret36 _ hd1 w4 (pw w4 hk4').tabs.pow).go fun w5 hk5 => ⟨_, rfl, ?_, ?_, ((B % 2 ^ 32 : Nat) : Int), u64w (by omega) (by omega), (ret36 _ hd2 w5 (pw w5 (hk4'.trans hk5)).tabs.pow).go fun w6 hk6 => ⟨_, rfl, ?_, ?_, key _ _ ((hk4'.trans hk5).trans hk6) ?_⟩⟩⟩
    · simp only [List.length_cons, List.length_nil]; omega
    · simp only [List.length_append, List.length_cons, List.length_nil]; omega
    · simp only [List.length_append, List.length_cons, List.length_nil]; omega
    · simp only [List.length_append, List.length_cons, List.length_nil]; omega
    · rw [eT (by omega) (by omega)]; simp [ownT, wrapF, h, hBn]
  · have h : x.kind = 18 := of_decide_eq_true h
    have hv : bytesV (d + 1) x = le64 (IntKind.u64.wrap x.num) := by rw [eV]; unfold bytesT; rw [if_neg (by omega), if_neg (by omega), if_neg (by omega), if_neg (by omega), if_neg (by omega), if_neg (by omega), if_pos (.inr h)]
    have hc1 := ret105 x.num p n c w1 hnum.1 hnum.2 (hv ▸ hr1) (by rw [hn, hv]) hc
    rw [← h] at hc1
    refine ⟨_, _, _, _, row, hc1.go fun w4 hk4 => ⟨_, _, rfl, (fun h => by cases h), fun _ => ?_⟩⟩
    have hk4' := hk1.trans hk4
    have hl := decNum_len' x.num hnum.1 hnum.2
    refine (ret34 x.num hnum.1 hnum.2 w4 (pw w4 hk4').tabs.pow).go fun w5 hk5 => ⟨_, rfl, ?_, ?_, key _ _ (hk4'.trans hk5) ?_⟩
    · simp only [List.length_cons, List.length_nil]; omega
    · simp only [List.length_append, List.length_cons, List.length_nil]; omega
    · rw [eT (by omega) (by omega)]; simp [ownT, wrapF, h]
  · have h : x.kind = 19 := of_decide_eq_true h
    have hv : bytesV (d + 1) x = le64 (B : Int) ++ le64 (H : Int) := by rw [eV]; unfold bytesT; rw [if_neg (by omega), if_neg (by omega), if_neg (by omega), if_neg (by omega), if_neg (by omega), if_neg (by omega), if_neg (by omega), if_neg (by omega), if_neg (by omega), if_neg (by omega), if_pos h, hB, hH]
    have hc1 := ret106 B H p n c w1 (by omega) (by omega) (hv ▸ hr1) (by rw [hn, hv]) hc
    rw [← h] at hc1
    refine ⟨_, _, _, _, row, hc1.go fun w4 hk4 => ⟨_, _, _, rfl, (fun h => by cases h), fun _ => ?_⟩⟩
    have hk4' := hk1.trans hk4
    have hok := hown.2.2.2.2.1 h
    rw [hB, hH] at hok
    obtain ⟨g1, g2, g3, g4⟩ := decOf_ok H B (by omega) (by omega)
    have hl := decTextF_len _ g2 g3 g4
    refine (ret107 H B (by omega) (by omega) hok w4 (pw w4 hk4').tabs).go fun w5 hk5 => ⟨_, rfl, ?_, ?_, key _ _ (hk4'.trans hk5) ?_⟩
    · simp only [List.length_cons, List.length_nil]; omega
    · simp only [List.length_append, List.length_cons, List.length_nil]; omega
    · rw [eT (by omega) (by omega)]; simp [ownT, wrapF, h, hBn, hHn]
  · have h : x.kind = 255 := of_decide_eq_true h
    exact key _ _ hk1 (by rw [eT (by omega) (by omega)]; simp [ownT, wrapF, h])
  · have h : x.kind = 127 := of_decide_eq_true h
    exact key _ _ hk1 (by rw [eT (by omega) (by omega)]; simp [ownT, wrapF, h])
  · have hkn := hright.1
    unfold knownB at hkn
    simp only [Bool.or_eq_true, Bool.and_eq_true, decide_eq_true_eq] at hkn
    have h2 := of_decide_eq_false h2
    have h3 := of_decide_eq_false h3
    have h4 := of_decide_eq_false h4
    have h1 := of_decide_eq_false h1
    have h5 := of_decide_eq_false h5
    have h6 := of_decide_eq_false h6
    have h7 := of_decide_eq_false h7
    have h8 := of_decide_eq_false h8
    have h9' := of_decide_eq_false h9'
    have h10 := of_decide_eq_false h10
    have h11 := of_decide_eq_false h11
    have h12 := of_decide_eq_false h12
    have h13 := of_decide_eq_false h13
    have h14 := of_decide_eq_false h14
    have h15 := of_decide_eq_false h15
    have h16 := of_decide_eq_false h16
    have h17 := of_decide_eq_false h17
    have h18 := of_decide_eq_false h18
    have h19 := of_decide_eq_false h19
    have h255 := of_decide_eq_false h255
    have h127 := of_decide_eq_false h127
    omega
theorem ite_ne {c : Prop} [Decidable c] {a b : List UInt8} (ha : a ≠ []) (hb : b ≠ []) : (if c then a else b) ≠ [] := by
  split
  · exact ha
  · exact hb
theorem longV_pos {F : Nat → List UInt8} (d : Nat) (x : Val) : longV F (d + 1) x ≠ [] := by
  show longT (longV F d) (textV F true true (d + 1)) x ≠ []
  unfold longT
  split
  · simp
  · split
    · simp
    · rename_i h3 h4
      show ownT F true true _ x ≠ []
      unfold ownT
      rw [if_neg h3, if_neg h4]
      refine ite_ne ?_ (ite_ne ?_ (ite_ne ?_ (ite_ne ?_ (ite_ne ?_ (ite_ne ?_ (ite_ne ?_ (ite_ne ?_ (ite_ne ?_ (ite_ne ?_ (ite_ne ?_ (ite_ne ?_ (ite_ne ?_ (ite_ne ?_ (ite_ne ?_ (ite_ne ?_ (ite_ne ?_ (ite_ne ?_ ?_)))))))))))))))))
      all_goals first
        | (refine ite_ne ?_ ?_ <;> (simp; done))
        | (simp [num1F, wrapF, strF]; done)
theorem text_kids {F : Nat → List UInt8} (hF : FloatIs F) (hA : ∀ n, asc (F n)) : ∀ (d : Nat) (x : Val), Ready F d x →
    Val52 F d x ∧
    (x.kind = 3 → ∀ (p : Option Addr) (n c : Nat) (nx : Int) (w : World), Pre w → ReadsB w p (bytesV (d + 1) x) → n = (bytesV (d + 1) x).length → n ≤ c → -1000000 ≤ nx → nx ≤ 1000000 → Ret 45 [.slice p n c, .int .i64 nx] w (cutV (longV F (d + 1) x) nx)) ∧
    (x.kind = 4 → ∀ (p : Option Addr) (n c : Nat) (nx : Int) (w : World), Pre w → ReadsB w p (bytesV (d + 1) x) → n = (bytesV (d + 1) x).length → n ≤ c → -1000000 ≤ nx → nx ≤ 1000000 → Ret 85 [.slice p n c, .int .i64 nx] w (cutV (longV F (d + 1) x) nx)) := by
  intro d
  induction d with
  | zero =>
    intro x hx
    have ho := hx.own
    have hkids : x.kids = [] := hx.2
    have ht := ho.tlen
    have hb := ho.blen
    have a45 : x.kind = 3 → ∀ (p : Option Addr) (n c : Nat) (nx : Int) (w : World), Pre w → ReadsB w p (bytesV 1 x) → n = (bytesV 1 x).length → n ≤ c → -1000000 ≤ nx → nx ≤ 1000000 → Ret 45 [.slice p n c, .int .i64 nx] w (cutV (longV F 1 x) nx) := by
      intro h3 p n c nx w hw hr hn hc h0 h9
      have hdb : bytesV 1 x = docB (bytesV 0) x.kids := by show bytesT (bytesV 0) x = _; unfold bytesT; rw [if_neg (by omega), if_neg (by omega), if_pos (.inl h3)]
      have hlt : longV F 1 x = [123] ++ joinK (x.kids.map (memT (longV F 0))) ++ [125] := by show longT (longV F 0) _ x = _; unfold longT; rw [if_pos h3]
      exact ret45 0 x.kids (fun n y hm => by rw [hkids] at hm; simp at hm) (by rw [hkids]; exact Nat.zero_le _) _ hlt ht p n c nx w hw (hdb ▸ hr) (by rw [hn, hdb]) hc h0 h9
    have a85 : x.kind = 4 → ∀ (p : Option Addr) (n c : Nat) (nx : Int) (w : World), Pre w → ReadsB w p (bytesV 1 x) → n = (bytesV 1 x).length → n ≤ c → -1000000 ≤ nx → nx ≤ 1000000 → Ret 85 [.slice p n c, .int .i64 nx] w (cutV (longV F 1 x) nx) := by
      intro h4 p n c nx w hw hr hn hc h0 h9
      have hdb : bytesV 1 x = docB (bytesV 0) x.kids := by show bytesT (bytesV 0) x = _; unfold bytesT; rw [if_neg (by omega), if_neg (by omega), if_pos (.inr h4)]
      have hlt : longV F 1 x = [91] ++ joinK (x.kids.map fun q => longV F 0 q.2) ++ [93] := by show longT (longV F 0) _ x = _; unfold longT; rw [if_neg (by omega), if_pos h4]
      exact ret85 0 x.kids (fun n y hm => by rw [hkids] at hm; simp at hm) (by rw [hkids]; exact Nat.zero_le _) _ hlt ht p n c nx w hw (hdb ▸ hr) (by rw [hn, hdb]) hc h0 h9
    exact ⟨ret52 hF hA 0 x ho (longV_utf8 hA 0 x hx) a45 a85, a45, a85⟩
  | succ d ih =>
    intro x hx
    have ho := hx.own
    have ht := ho.tlen
    have hb := ho.blen
    have hbody : ∀ (h : x.kind = 3 ∨ x.kind = 4), bytesV (d + 1 + 1) x = docB (bytesV (d + 1)) x.kids ∧ (bodyB (bytesV (d + 1)) x.kids).length ≤ 5000000 := by
      intro h
      have hdb : bytesV (d + 1 + 1) x = docB (bytesV (d + 1)) x.kids := by show bytesT (bytesV (d + 1)) x = _; unfold bytesT; rw [if_neg (by omega), if_neg (by omega), if_pos h]
      refine ⟨hdb, ?_⟩
      rw [hdb] at hb
      unfold docB at hb
      simp only [List.length_append] at hb
      omega
    have a45 : x.kind = 3 → ∀ (p : Option Addr) (n c : Nat) (nx : Int) (w : World), Pre w → ReadsB w p (bytesV (d + 1 + 1) x) → n = (bytesV (d + 1 + 1) x).length → n ≤ c → -1000000 ≤ nx → nx ≤ 1000000 → Ret 45 [.slice p n c, .int .i64 nx] w (cutV (longV F (d + 1 + 1) x) nx) := by
      intro h3 p n c nx w hw hr hn hc h0 h9
      obtain ⟨hdb, hbl⟩ := hbody (.inl h3)
      have hlt : longV F (d + 1 + 1) x = [123] ++ joinK (x.kids.map (memT (longV F (d + 1)))) ++ [125] := by show longT (longV F (d + 1)) _ x = _; unfold longT; rw [if_pos h3]
      refine ret45 (d + 1) x.kids (fun nm y hm => ?_) hbl _ hlt ht p n c nx w hw (hdb ▸ hr) (by rw [hn, hdb]) hc h0 h9
      obtain ⟨hnm, hy⟩ := hx.2 (.inl h3) nm y hm
      have hlu := longV_utf8 hA d y hy
      obtain ⟨i52, _, i85⟩ := ih y hy
      exact ⟨hnm.2.1, memT_utf8 hnm.2.2.1 hlu, d, rfl, hy.own.good, fun p n c nx w => ret77 d nm y hnm hy.own.good i52 hlu hy.own.tlen (longV_pos d y) i85 hy.own.blen p n c nx w⟩
    have a85 : x.kind = 4 → ∀ (p : Option Addr) (n c : Nat) (nx : Int) (w : World), Pre w → ReadsB w p (bytesV (d + 1 + 1) x) → n = (bytesV (d + 1 + 1) x).length → n ≤ c → -1000000 ≤ nx → nx ≤ 1000000 → Ret 85 [.slice p n c, .int .i64 nx] w (cutV (longV F (d + 1 + 1) x) nx) := by
      intro h4 p n c nx w hw hr hn hc h0 h9
      obtain ⟨hdb, hbl⟩ := hbody (.inr h4)
      have hlt : longV F (d + 1 + 1) x = [91] ++ joinK (x.kids.map fun q => longV F (d + 1) q.2) ++ [93] := by show longT (longV F (d + 1)) _ x = _; unfold longT; rw [if_neg (by omega), if_pos h4]
      refine ret85 (d + 1) x.kids (fun nm y hm => ?_) hbl _ hlt ht p n c nx w hw (hdb ▸ hr) (by rw [hn, hdb]) hc h0 h9
      obtain ⟨hnm, hy⟩ := hx.2 (.inr h4) nm y hm
      exact ⟨hnm.2.1, longV_utf8 hA d y hy, d, rfl, hy.own.good, (ih y hy).1⟩
    exact ⟨ret52 hF hA (d + 1) x ho (longV_utf8 hA (d + 1) x hx) a45 a85, a45, a85⟩
end Go.Proofs.Tryz
set_option linter.unusedVariables false
set_option maxRecDepth 100000
namespace Go.Proofs.Tryz
open Go.Vc
def VC13 (d : Ptr) (d_n d_c : Nat) (nx : Int) (w : World) (R : RR) : Prop :=
 Calls prog 45 ⟨[.slice d d_n d_c, .int .i64 nx]⟩ w fun e w1 => ∃ x8 : Bs, ∃ aa : Bool, e = .returned (.tuple ⟨[.string (mkS x8), .bool aa]⟩) ∧
 R (.tuple ⟨[.string (mkS x8), .bool aa]⟩) w1
def an13 : Ann :=
 .k .z
 (.k (.t [.q, .q, .s [.str, .bool]])
 .l)
theorem c13 (d : Ptr) (d_n d_c : Nat) (nx : Int) (w : World) (R : RR) (hvc : VC13 d d_n d_c nx w R) : CR 13 [.slice d d_n d_c, .int .i64 nx] w R :=
 vcc (fn := f13) (ann := an13) hvc (by kernel_rfl) (by kernel_rfl)
def VC18 (ac : Int) (rB : Ptr) (ad ae : Nat) (nx : Int) (w : World) (R : RR) : Prop :=
 ∀ w1, w1 = w.alloc (.cells ⟨[.int .i64 ac, .slice rB ad ae]⟩ 41) →
 ∃ x6 : Int, ∃ (ab : Ptr) (af ag : Nat), LoadsRow prog 41 w1 ⟨w.heap.size, 0, none⟩ [.int .i64 x6, .slice ab af ag] ∧
 Calls prog 51 ⟨[.agg ⟨[.int .i64 x6, .slice ab af ag]⟩]⟩ w1 fun e w2 => ∃ x7 : List Value, e = .returned (.agg ⟨x7⟩) ∧
 Calls prog 52 ⟨[.agg ⟨x7⟩, .int .i64 nx]⟩ w2 fun e w3 => ∃ x9 : Bs, ∃ aa : Bool, e = .returned (.tuple ⟨[.string (mkS x9), .bool aa]⟩) ∧
 R (.tuple ⟨[.string (mkS x9), .bool aa]⟩) w3
def an18 : Ann :=
 .k .z
 (.k (.t [.s [.int .i64, .slice], .s [.agg], .q, .s [.str, .bool]])
 .l)
theorem c18 (aa : Int) (rB : Ptr) (ab ac : Nat) (nx : Int) (w : World) (R : RR) (hvc : VC18 aa rB ab ac nx w R) : CR 18 [.agg ⟨[.int .i64 aa, .slice rB ab ac]⟩, .int .i64 nx] w R :=
 vcc (fn := f18) (ann := an18) hvc (by kernel_rfl) (by kernel_rfl)
def VC19 (ab : Int) (rB : Ptr) (ac ad : Nat) (w : World) (R : RR) : Prop :=
 ∀ w1, w1 = w.alloc (.cells ⟨[.int .i64 ab, .slice rB ac ad]⟩ 41) →
 ∃ x3 : Int, ∃ (aa : Ptr) (ae af : Nat), LoadsRow prog 41 w1 ⟨w.heap.size, 0, none⟩ [.int .i64 x3, .slice aa ae af] ∧
 Calls prog 51 ⟨[.agg ⟨[.int .i64 x3, .slice aa ae af]⟩]⟩ w1 fun e w2 => ∃ x4 : List Value, e = .returned (.agg ⟨x4⟩) ∧
 Calls prog 53 ⟨[.agg ⟨x4⟩]⟩ w2 fun e w3 => ∃ x5 : Bs, e = .returned (.string (mkS x5)) ∧
 R (.string (mkS x5)) w3
def an19 : Ann :=
 .k .z
 (.k (.t [.s [.int .i64, .slice], .s [.agg], .s [.str]])
 .l)
theorem c19 (aa : Int) (rB : Ptr) (ab ac : Nat) (w : World) (R : RR) (hvc : VC19 aa rB ab ac w R) : CR 19 [.agg ⟨[.int .i64 aa, .slice rB ab ac]⟩] w R :=
 vcc (fn := f19) (ann := an19) hvc (by kernel_rfl) (by kernel_rfl)
def VC20 (ab : Int) (rB : Ptr) (ac ad : Nat) (w : World) (R : RR) : Prop :=
 ∀ w1, w1 = w.alloc (.cells ⟨[.int .i64 ab, .slice rB ac ad]⟩ 41) →
 ∃ x3 : Int, ∃ (aa : Ptr) (ae af : Nat), LoadsRow prog 41 w1 ⟨w.heap.size, 0, none⟩ [.int .i64 x3, .slice aa ae af] ∧
 Calls prog 54 ⟨[.agg ⟨[.int .i64 x3, .slice aa ae af]⟩]⟩ w1 fun e w2 => ∃ x4 : List Value, e = .returned (.agg ⟨x4⟩) ∧
 Calls prog 55 ⟨[.agg ⟨x4⟩]⟩ w2 fun e w3 => ∃ x5 : Bs, e = .returned (.string (mkS x5)) ∧
 R (.string (mkS x5)) w3
def an20 : Ann :=
 .k .z
 (.k (.t [.s [.int .i64, .slice], .s [.agg], .s [.str]])
 .l)
theorem c20 (aa : Int) (rB : Ptr) (ab ac : Nat) (w : World) (R : RR) (hvc : VC20 aa rB ab ac w R) : CR 20 [.agg ⟨[.int .i64 aa, .slice rB ab ac]⟩] w R :=
 vcc (fn := f20) (ann := an20) hvc (by kernel_rfl) (by kernel_rfl)
def VC51 (aa : Int) (rB : Ptr) (ab ac : Nat) (w : World) (R : RR) : Prop :=
 ∀ w1, w1 = w.alloc (.cells ⟨[.int .i64 aa, .slice rB ab ac]⟩ 41) →
 ∀ w2, w2 = w1.alloc (.cells ⟨[.int .u8 0, .slice none 0 0]⟩ 92) →
 ∃ x4 : Int, w2.cell? ⟨w.heap.size, 0, none⟩ = some (.int .i64 x4) ∧
 ∃ x5 : Int, IntKind.u8.wrap x4 = x5 ∧
 ∃ (x7 : Ptr) (ad ae : Nat), w2.cell? ⟨w.heap.size, 1, none⟩ = some (.slice x7 ad ae) ∧
 ∃ w3, (Instr.storeAt 92 (.pointer (some ⟨w1.heap.size, 0, none⟩)) (.agg ⟨[.int .u8 x5, .slice x7 ad ae]⟩)).run prog w2 = .ok () w3 ∧
 ∃ r : List Value, LoadsRow prog 92 w3 ⟨w1.heap.size, 0, none⟩ r ∧ R (.agg ⟨r⟩) w3
def an51 : Ann :=
 .k .z
 (.k (.t [.q, .s [.int .i64], .q, .q, .s [.slice]])
 .l)
theorem c51 (aa : Int) (rB : Ptr) (ab ac : Nat) (w : World) (R : RR) (hvc : VC51 aa rB ab ac w R) : CR 51 [.agg ⟨[.int .i64 aa, .slice rB ab ac]⟩] w R :=
 vcc (fn := f51) (ann := an51) hvc (by kernel_rfl) (by kernel_rfl)
def VC54 (aa : Int) (rB : Ptr) (ab ac : Nat) (w : World) (R : RR) : Prop :=
 ∀ w1, w1 = w.alloc (.cells ⟨[.int .i64 aa, .slice rB ab ac]⟩ 41) →
 ∀ w2, w2 = w1.alloc (.cells ⟨[.int .u8 0, .slice none 0 0]⟩ 96) →
 ∃ x4 : Int, w2.cell? ⟨w.heap.size, 0, none⟩ = some (.int .i64 x4) ∧
 ∃ x5 : Int, IntKind.u8.wrap x4 = x5 ∧
 ∃ (x7 : Ptr) (ad ae : Nat), w2.cell? ⟨w.heap.size, 1, none⟩ = some (.slice x7 ad ae) ∧
 ∃ w3, (Instr.storeAt 96 (.pointer (some ⟨w1.heap.size, 0, none⟩)) (.agg ⟨[.int .u8 x5, .slice x7 ad ae]⟩)).run prog w2 = .ok () w3 ∧
 ∃ r : List Value, LoadsRow prog 96 w3 ⟨w1.heap.size, 0, none⟩ r ∧ R (.agg ⟨r⟩) w3
def an54 : Ann :=
 .k .z
 (.k (.t [.q, .s [.int .i64], .q, .q, .s [.slice]])
 .l)
theorem c54 (aa : Int) (rB : Ptr) (ab ac : Nat) (w : World) (R : RR) (hvc : VC54 aa rB ab ac w R) : CR 54 [.agg ⟨[.int .i64 aa, .slice rB ab ac]⟩] w R :=
 vcc (fn := f54) (ann := an54) hvc (by kernel_rfl) (by kernel_rfl)
def VC55 (ab : Int) (ac : Ptr) (ad ae : Nat) (w : World) (R : RR) : Prop :=
 ∀ w1, w1 = w.alloc (.cells ⟨[.int .u8 ab, .slice ac ad ae]⟩ 96) →
 ∃ x3 : Int, ∃ (aa : Ptr) (af ag : Nat), LoadsRow prog 96 w1 ⟨w.heap.size, 0, none⟩ [.int .u8 x3, .slice aa af ag] ∧
 Calls prog 109 ⟨[.agg ⟨[.int .u8 x3, .slice aa af ag]⟩]⟩ w1 fun e w2 => ∃ x4 : List Value, e = .returned (.agg ⟨x4⟩) ∧
 Calls prog 53 ⟨[.agg ⟨x4⟩]⟩ w2 fun e w3 => ∃ x5 : Bs, e = .returned (.string (mkS x5)) ∧
 R (.string (mkS x5)) w3
def an55 : Ann :=
 .k .z
 (.k (.t [.s [.int .u8, .slice], .s [.agg], .s [.str]])
 .l)
theorem c55 (aa : Int) (ab : Ptr) (ac ad : Nat) (w : World) (R : RR) (hvc : VC55 aa ab ac ad w R) : CR 55 [.agg ⟨[.int .u8 aa, .slice ab ac ad]⟩] w R :=
 vcc (fn := f55) (ann := an55) hvc (by kernel_rfl) (by kernel_rfl)
def VC109 (aa : Int) (ab : Ptr) (ac ad : Nat) (w : World) (R : RR) : Prop :=
 ∀ w1, w1 = w.alloc (.cells ⟨[.int .u8 aa, .slice ab ac ad]⟩ 96) →
 ∀ w2, w2 = w1.alloc (.cells ⟨[.int .u8 0, .slice none 0 0]⟩ 92) →
 ∃ x4 : Int, w2.cell? ⟨w.heap.size, 0, none⟩ = some (.int .u8 x4) ∧
 ∃ (x6 : Ptr) (ae af : Nat), w2.cell? ⟨w.heap.size, 1, none⟩ = some (.slice x6 ae af) ∧
 ∃ w3, (Instr.storeAt 92 (.pointer (some ⟨w1.heap.size, 0, none⟩)) (.agg ⟨[.int .u8 x4, .slice x6 ae af]⟩)).run prog w2 = .ok () w3 ∧
 ∃ r : List Value, LoadsRow prog 92 w3 ⟨w1.heap.size, 0, none⟩ r ∧ R (.agg ⟨r⟩) w3
def an109 : Ann :=
 .k .z
 (.k (.t [.q, .s [.int .u8], .q, .s [.slice]])
 .l)
theorem c109 (aa : Int) (ab : Ptr) (ac ad : Nat) (w : World) (R : RR) (hvc : VC109 aa ab ac ad w R) : CR 109 [.agg ⟨[.int .u8 aa, .slice ab ac ad]⟩] w R :=
 vcc (fn := f109) (ann := an109) hvc (by kernel_rfl) (by kernel_rfl)
end Go.Proofs.Tryz
set_option linter.unusedVariables false
namespace Go.Proofs.Tryz
open Go.Vc Go.RowKit Go.Sort
theorem ret11 {F : Nat → List UInt8} (hF : FloatIs F) (x : Val) (bp kp : Option Addr) (bc kc : Nat) (w : World) (T : Tabs w) (hh : Hangs 12 w x bp bc kp kc) :
    RetB 11 [.agg ⟨valCells x bp bc kp kc⟩] w (fun b => b = true → FitsV 11 x ∧ RightV 11 x ∧ nparts 11 x ≤ 300 ∧ LongV 11 x ∧ NoEV F 11 x) := by
  refine RetB.of (c11 _ _ _ _ _ _ _ _ _ _ _ _ w (fun u w' => ∃ b, u = .bool b ∧ (b = true → FitsV 11 x ∧ RightV 11 x ∧ nparts 11 x ≤ 300 ∧ LongV 11 x ∧ NoEV F 11 x) ∧ Keeps w w') ?_)
  unfold VC11
  intro w1 hw1
  have hk1 : Keeps w w1 := by rw [hw1]; exact (Keeps.refl w).alloc _
  have hv1 : Var w1 w.heap.size 26 (valCells x bp bc kp kc) := by rw [hw1]; exact var_alloc w _ 26
  refine ⟨_, _, _, _, _, _, _, _, _, _, _, _, hv1.lies.row n26, ?_⟩
  refine (ret8 x bp kp bc kc w1 (hh.keeps hk1)).go fun b w2 hb hk2 => ⟨b, rfl, fun hbt => ?_, fun _ => ⟨false, rfl, (fun h => by cases h), hk1.trans hk2⟩⟩
  obtain ⟨hf, hr, hp⟩ := hb hbt
  have hk2' := hk1.trans hk2
  refine ⟨_, _, _, _, _, _, _, _, _, _, _, _, (hv1.keeps hk2).lies.row n26, ?_⟩
  exact (ret43 hF 11 x bp kp bc kc w2 (T.keeps hk2') (hh.down.keeps hk2') hf (by omega)).go fun b2 w3 hb2 hk3 => ⟨b2, rfl, b2, rfl, fun h => ⟨hf, hr, hp, hb2 h⟩, hk2'.trans hk3⟩
def elemOf (x : Val) : Val := .mk 3 [] [] 0 0 0 [] [([97], x)]
theorem ret16 (x : Val) (bp kp : Option Addr) (bc kc : Nat) (w : World) :
    Calls prog 16 ⟨[.agg ⟨valCells x bp bc kp kc⟩]⟩ w fun e w' => ∃ (bp' kp' : Option Addr) (bc' kc' : Nat), e = .returned (.agg ⟨valCells (elemOf x) bp' bc' kp' kc'⟩) ∧ Keeps w w' ∧
      ∀ d, Hangs (d + 1) w x bp bc kp kc → Hangs (d + 1) w' (elemOf x) bp' bc' kp' kc' := by
  have := c16 x.kind x.text x.more x.num x.bits x.high bp x.b.length bc kp x.kids.length kc w (fun v w' => ∃ (bp' kp' : Option Addr) (bc' kc' : Nat), v = .agg ⟨valCells (elemOf x) bp' bc' kp' kc'⟩ ∧ Keeps w w' ∧
      ∀ d, Hangs (d + 1) w x bp bc kp kc → Hangs (d + 1) w' (elemOf x) bp' bc' kp' kc') ?_
  · exact this.mono fun e w' ⟨v, he, bp', kp', bc', kc', hv, h⟩ => ⟨bp', kp', bc', kc', by rw [he, hv], h⟩
  unfold VC16
  intro w1 hw1 w2 hw2
  have hk1 : Keeps w w1 := by rw [hw1]; exact (Keeps.refl w).alloc _
  have hv1 : Var w1 w.heap.size 26 (valCells x bp bc kp kc) := by rw [hw1]; exact var_alloc w _ 26
  have hs1 : w1.heap.size = w.heap.size + 1 := by rw [hw1]; simp
  have hk2 : Keeps w1 w2 := by rw [hw2]; exact (Keeps.refl w1).alloc _
  let zs : List Value := [.int .i64 0, .string (mkS []), .string (mkS []), .int .i64 0, .int .u64 0, .int .u64 0, .slice none 0 0, .slice none 0 0]
  have hz2 : Var w2 w1.heap.size 26 zs := by rw [hw2]; exact var_alloc w1 _ 26
  have hv2 := hv1.keeps hk2
  have hk2' := hk1.trans hk2
  have hbs := build_elem w2 (mkS [97]) x.kind (mkS x.text) (mkS x.more) x.num x.bits x.high bp x.b.length bc kp x.kids.length kc
  have hk4 : Keeps w2 (w2.alloc (.cells ⟨Value.string (mkS [97]) :: valCells x bp bc kp kc⟩ 46)) := (Keeps.refl w2).alloc _
  have hv4 : Var (w2.alloc (.cells ⟨Value.string (mkS [97]) :: valCells x bp bc kp kc⟩ 46)) w2.heap.size 46 (Value.string (mkS [97]) :: valCells x bp bc kp kc) := var_alloc w2 _ 46
  have hz4 := hz2.keeps hk4
  have hk4' := hk2'.trans hk4
  have hs2 : w2.heap.size = w1.heap.size + 1 := by rw [hw2]; simp
  generalize hw4 : w2.alloc (.cells ⟨Value.string (mkS [97]) :: valCells x bp bc kp kc⟩ 46) = w4 at *
  obtain ⟨w5, hr, hg, hs, hv5⟩ := store_row hz4 n26 (zs := zs) (cs := valCells (elemOf x) none 0 (some ⟨w2.heap.size, 0, none⟩) 1) rfl rfl rfl
  have hk5 : Keeps w w5 := Below.grown hk4' hg hk4'.size (fun j hj => by cases hj; omega)
  refine ⟨_, _, _, _, _, _, _, _, _, _, _, _, hv2.lies.row n26, _, hbs, ?_⟩
  refine ⟨w5, ?_, _, hv5.lies.row n26, none, some ⟨w2.heap.size, 0, none⟩, 0, 1, rfl, hk5, ?_⟩
  · rw [← hw4] at hr; exact hr
  · intro d hh
    have hv45 := grown_var hg (by omega) hv4
    refine ⟨⟨ReadsB.nil _ _, ⟨fun _ => rfl, Nat.le_refl _⟩, (show inI64 3 by decide), (show inI64 0 by decide), (show inU64 0 by decide), (show inU64 0 by decide), (show 0 ≤ 1125899906842624 by decide), (show 1 ≤ 1125899906842624 by decide)⟩, fun i n y hi => ?_⟩
    have hi' : [([97], x)][i]? = some (n, y) := hi
    have hi0 : i = 0 := by
      have := (List.getElem?_eq_some_iff.1 hi').1
      simp at this; exact this
    subst hi0
    have hi' : (([97], x) : List UInt8 × Val) = (n, y) := Option.some.inj hi'
    cases hi'
    refine ⟨⟨w2.heap.size, 0, none⟩, bp, bc, kp, kc, rfl, fun j v hj => ?_, hh.down.keeps hk5⟩
    rw [add_at, add_at]
    exact hv45.lies.at j hj (by omega)
theorem n41 : cellsOf' prog 41 = some 2 := by kernel_rfl
theorem n96 : cellsOf' prog 96 = some 2 := by kernel_rfl
abbrev rawK (k : Int) (p : Option Addr) (n c : Nat) : Value := .agg ⟨[.int .i64 k, .slice p n c]⟩
theorem u8_kind {x : Val} (h : OwnRight x) : IntKind.u8.wrap x.kind = x.kind := by
  rw [u8_wrap, kind_byte h]
theorem ret51 (k : Int) (hk : IntKind.u8.wrap k = k) (p : Option Addr) (n c : Nat) (w : World) : Ret 51 [rawK k p n c] w (rawV k p n c) := by
  refine Ret.of (c51 _ _ _ _ w _ ?_)
  unfold VC51
  intro w1 hw1 w2 hw2
  have hk1 : Keeps w w1 := by rw [hw1]; exact (Keeps.refl w).alloc _
  have hv1 : Var w1 w.heap.size 41 [.int .i64 k, .slice p n c] := by rw [hw1]; exact var_alloc w _ 41
  have hk2 : Keeps w1 w2 := by rw [hw2]; exact (Keeps.refl w1).alloc _
  obtain ⟨w3, hst, hk3, hs3, hv3⟩ := store_new (t := 92) (cs := [.int .u8 k, .slice p n c]) hw2 n92 rfl rfl rfl
  exact ⟨k, (hv1.keeps hk2).lies.at 0 rfl rfl, k, hk, _, _, _, (hv1.keeps hk2).lies.at 1 rfl rfl, w3, hst, _, hv3.lies.row n92, rfl, hk1.trans hk3⟩
theorem ret54 (k : Int) (hk : IntKind.u8.wrap k = k) (p : Option Addr) (n c : Nat) (w : World) : Ret 54 [rawK k p n c] w (rawV k p n c) := by
  refine Ret.of (c54 _ _ _ _ w _ ?_)
  unfold VC54
  intro w1 hw1 w2 hw2
  have hk1 : Keeps w w1 := by rw [hw1]; exact (Keeps.refl w).alloc _
  have hv1 : Var w1 w.heap.size 41 [.int .i64 k, .slice p n c] := by rw [hw1]; exact var_alloc w _ 41
  have hk2 : Keeps w1 w2 := by rw [hw2]; exact (Keeps.refl w1).alloc _
  obtain ⟨w3, hst, hk3, hs3, hv3⟩ := store_new (t := 96) (cs := [.int .u8 k, .slice p n c]) hw2 n96 rfl rfl rfl
  exact ⟨k, (hv1.keeps hk2).lies.at 0 rfl rfl, k, hk, _, _, _, (hv1.keeps hk2).lies.at 1 rfl rfl, w3, hst, _, hv3.lies.row n96, rfl, hk1.trans hk3⟩
theorem ret109 (k : Int) (p : Option Addr) (n c : Nat) (w : World) : Ret 109 [rawV k p n c] w (rawV k p n c) := by
  refine Ret.of (c109 _ _ _ _ w _ ?_)
  unfold VC109
  intro w1 hw1 w2 hw2
  have hk1 : Keeps w w1 := by rw [hw1]; exact (Keeps.refl w).alloc _
  have hv1 : Var w1 w.heap.size 96 [.int .u8 k, .slice p n c] := by rw [hw1]; exact var_alloc w _ 96
  have hk2 : Keeps w1 w2 := by rw [hw2]; exact (Keeps.refl w1).alloc _
  obtain ⟨w3, hst, hk3, hs3, hv3⟩ := store_new (t := 92) (cs := [.int .u8 k, .slice p n c]) hw2 n92 rfl rfl rfl
  exact ⟨k, (hv1.keeps hk2).lies.at 0 rfl rfl, _, _, _, (hv1.keeps hk2).lies.at 1 rfl rfl, w3, hst, _, hv3.lies.row n92, rfl, hk1.trans hk3⟩
theorem ret18 {F : Nat → List UInt8} {d : Nat} {y : Val} (h52 : Val52 F d y) (hku : IntKind.u8.wrap y.kind = y.kind) (p : Option Addr) (n c : Nat) (w : World) (hw : Pre w) (hr : ReadsB w p (bytesV (d + 1) y)) (hn : n = (bytesV (d + 1) y).length) (hc : n ≤ c)
    (nx : Int) (h0 : -1000000 ≤ nx) (h9 : nx ≤ 1000000) : Ret 18 [rawK y.kind p n c, .int .i64 nx] w (cutV (longV F (d + 1) y) nx) := by
  refine Ret.of (c18 _ _ _ _ _ w _ ?_)
  unfold VC18
  intro w1 hw1
  have hk1 : Keeps w w1 := by rw [hw1]; exact (Keeps.refl w).alloc _
  have hv1 : Var w1 w.heap.size 41 [.int .i64 y.kind, .slice p n c] := by rw [hw1]; exact var_alloc w _ 41
  refine ⟨_, _, _, _, hv1.lies.row n41, (ret51 y.kind hku p n c w1).go fun w2 hk2 => ⟨_, rfl, ?_⟩⟩
  have hk2' := hk1.trans hk2
  exact (h52 p n c nx w2 (hw.keeps hk2') (hr.keeps hk2') hn hc h0 h9).go fun w3 hk3 => ⟨_, _, rfl, rfl, hk2'.trans hk3⟩
theorem ret19 {F : Nat → List UInt8} {d : Nat} {y : Val} (h52 : Val52 F d y) (hku : IntKind.u8.wrap y.kind = y.kind) (p : Option Addr) (n c : Nat) (w : World) (hw : Pre w) (hr : ReadsB w p (bytesV (d + 1) y)) (hn : n = (bytesV (d + 1) y).length) (hc : n ≤ c) : Ret 19 [rawK y.kind p n c] w (.string (mkS (longV F (d + 1) y))) := by
  refine Ret.of (c19 _ _ _ _ w _ ?_)
  unfold VC19
  intro w1 hw1
  have hk1 : Keeps w w1 := by rw [hw1]; exact (Keeps.refl w).alloc _
  have hv1 : Var w1 w.heap.size 41 [.int .i64 y.kind, .slice p n c] := by rw [hw1]; exact var_alloc w _ 41
  refine ⟨_, _, _, _, hv1.lies.row n41, (ret51 y.kind hku p n c w1).go fun w2 hk2 => ⟨_, rfl, ?_⟩⟩
  have hk2' := hk1.trans hk2
  exact (ret53 h52 p n c w2 (hw.keeps hk2') (hr.keeps hk2') hn hc).go fun w3 hk3 => ⟨_, rfl, rfl, hk2'.trans hk3⟩
theorem ret20 {F : Nat → List UInt8} {d : Nat} {y : Val} (h52 : Val52 F d y) (hku : IntKind.u8.wrap y.kind = y.kind) (p : Option Addr) (n c : Nat) (w : World) (hw : Pre w) (hr : ReadsB w p (bytesV (d + 1) y)) (hn : n = (bytesV (d + 1) y).length) (hc : n ≤ c) : Ret 20 [rawK y.kind p n c] w (.string (mkS (longV F (d + 1) y))) := by
  refine Ret.of (c20 _ _ _ _ w _ ?_)
  unfold VC20
  intro w1 hw1
  have hk1 : Keeps w w1 := by rw [hw1]; exact (Keeps.refl w).alloc _
  have hv1 : Var w1 w.heap.size 41 [.int .i64 y.kind, .slice p n c] := by rw [hw1]; exact var_alloc w _ 41
  refine ⟨_, _, _, _, hv1.lies.row n41, (ret54 y.kind hku p n c w1).go fun w2 hk2 => ⟨_, rfl, ?_⟩⟩
  have hk2' := hk1.trans hk2
  have h55 : Ret 55 [rawV y.kind p n c] w2 (.string (mkS (longV F (d + 1) y))) := by
    refine Ret.of (c55 _ _ _ _ w2 _ ?_)
    unfold VC55
    intro w3 hw3
    have hk3 : Keeps w2 w3 := by rw [hw3]; exact (Keeps.refl w2).alloc _
    have hv3 : Var w3 w2.heap.size 96 [.int .u8 y.kind, .slice p n c] := by rw [hw3]; exact var_alloc w2 _ 96
    refine ⟨_, _, _, _, hv3.lies.row n96, (ret109 y.kind p n c w3).go fun w4 hk4 => ⟨_, rfl, ?_⟩⟩
    have hk4' := (hk2'.trans hk3).trans hk4
    exact (ret53 h52 p n c w4 (hw.keeps hk4') (hr.keeps hk4') hn hc).go fun w5 hk5 => ⟨_, rfl, rfl, (hk3.trans hk4).trans hk5⟩
  exact h55.go fun w3 hk3 => ⟨_, rfl, rfl, hk2'.trans hk3⟩
end Go.Proofs.Tryz
