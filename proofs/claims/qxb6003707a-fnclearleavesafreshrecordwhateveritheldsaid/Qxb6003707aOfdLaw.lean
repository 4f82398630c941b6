import Derived.Test.Qxb6003707aOfdI
namespace Go.Proofs.Qxb6003707a.Ofd
open Go.RowKit
set_option linter.unusedVariables false

theorem Own.below {w w' : World} {t : TypeId} {a' : Option Addr} {n : Nat} {f : Nat → Value} (h : Own w w' t a' n f) : Below w.heap.size w w' := by
  rcases h with ⟨_, _, rfl⟩ | ⟨_, rfl⟩
  · exact Below.refl _ _
  · exact (Below.refl _ _).alloc (Nat.le_refl _) _
theorem Own.row {w w' : World} {t : TypeId} {a' : Option Addr} {n : Nat} {f : Nat → Value} (h : Own w w' t a' n f) : Row w' a' n f := by
  rcases h with ⟨_, h0, rfl⟩ | ⟨h1, rfl⟩
  · exact Or.inl h0
  · exact Or.inr ⟨_, 0, h1, fun k hk => by rw [Nat.zero_add, World.cell?_alloc_new]; exact mk_get n f k hk⟩
theorem Row.later {w w' : World} {a : Option Addr} {n : Nat} {f : Nat → Value} (h : Row w a n f) (hb : Below w.heap.size w w') : Row w' a n f := h.mono (fun p v hp => cell_later hb hp)
theorem Own.txt {w w' : World} {a' : Option Addr} {n : Nat} {f : Nat → Value} (B : List Int) (h : Own w w' 5 a' n f) :
    ∃ ρ, (ρ = none ∨ ρ = some w.heap.size) ∧ Txt w' ρ n a' B 0 ∧ (∀ g, ρ = some g → g < w'.heap.size) ∧ (a' = none ∨ ∃ g, a' = some ⟨g, 0, none⟩) := by
  rcases h with ⟨h1, h0, rfl⟩ | ⟨h1, rfl⟩
  · exact ⟨none, Or.inl rfl, Or.inl h0, (fun g e => by cases e), Or.inl h1⟩
  · exact ⟨some w.heap.size, Or.inr rfl, Or.inr ⟨_, _, rfl, h1, heap_alloc_new _ _, mk_size _ _, fun j hj => by omega⟩, (fun g e => by cases e; simp), Or.inr ⟨_, h1⟩⟩
theorem row_of_owns {w : World} {base m : Nat} {v : Value} {B : List Int} (h : w.ownsRow base 5 1 v m (B.map (.int .u8))) : ∃ a cap, v = .slice a m cap ∧ Row w a m (fun k => .int .u8 (B.getD k 0)) := by
  have h' := h
  obtain ⟨hl, hx⟩ := h
  rcases hx with ⟨hv, hm⟩ | ⟨g, cap, cur, hv, _⟩
  · subst hm; exact ⟨none, 0, hv, Or.inl rfl⟩
  · subst hv
    refine ⟨_, cap, rfl, Or.inr ⟨g, 0, rfl, fun k hk => ?_⟩⟩
    rw [Nat.zero_add, h'.cellAt k (by omega)]
    have hk' : k < B.length := by simp at hl; omega
    simp [List.getD, List.getElem?_eq_getElem hk']

theorem grown_any {a b : World} (h : a.grownBy b none) (ρ : Option Nat) : a.grownBy b ρ := ⟨h.os, h.tape, h.output, h.size, fun k hk _ => h.block k hk (by simp)⟩
theorem grown_of_below {a b : World} (h : Below a.heap.size a b) : a.grownBy b none := ⟨h.os, h.tape, h.output, h.size, fun k hk _ => h.block k hk⟩
theorem Txt.later {w w' : World} {ρ : Option Nat} {m : Nat} {ta : Option Addr} {B : List Int} {p : Nat} (h : Txt w ρ m ta B p) (hb : Below w.heap.size w w') : Txt w' ρ m ta B p := h.kept (fun g _ hlt => hb.block g hlt)

theorem Txt.mono0 {w : World} {ρ : Option Nat} {m : Nat} {ta : Option Addr} {B : List Int} {p : Nat} (h : Txt w ρ m ta B p) : Txt w ρ m ta B 0 := by
  rcases h with h | ⟨gt, tarr, h1, h2, h3, h4, h5⟩
  · exact Or.inl h
  · exact Or.inr ⟨gt, tarr, h1, h2, h3, h4, fun j hj => by omega⟩

/-- The record that the law clears. -/
theorem mkRec {w3 w4 w5 : World} {l gf gs n m : Nat} {ρ : Option Nat} {ta : Option Addr} {ts : List ByteArray} {ws : List Int} {arr : Array Value}
    (hl0 : ts.length = n) (hl1 : ws.length = n) (hn : n ≤ 1000) (hz : ∀ k, k < n → 0 ≤ ws.getD k 0 ∧ ws.getD k 0 ≤ 1000) (hm : m = psum ws n) (hρ : ∀ g, ρ = some g → g < w3.heap.size)
    (hlay : Lay w4 (gf + 1) l gf gs n ws (psum ws n) n) (hgf : w3.heap.size ≤ gf) (hfb : w4.heap[gf]? = some (.cells arr 57 (0, 0))) (hfi : Fields arr n (fun k => ts.getD k ByteArray.empty) (fun k => ws.getD k 0)) (hb4 : Below w3.heap.size w3 w4)
    (hb5 : Below w4.heap.size w4 w5) :
    Rec (w5.alloc (.cells #[.int .i64 0, .pointer (some ⟨l, 0, none⟩), .slice ta m m] 48)) w5.heap.size l gf gs n m ρ ta ts ws := by
  obtain ⟨h1, h2, h3, ⟨gm, h4, h5, h6, h7, h8⟩, ⟨sarr, h9, h10, h11⟩⟩ := hlay
  have s4 := hb4.size
  have s5 := hb5.size
  have hk : ∀ k, k < w4.heap.size → (w5.alloc (.cells #[.int .i64 0, .pointer (some ⟨l, 0, none⟩), .slice ta m m] 48)).heap[k]? = w4.heap[k]? := fun k hk => by
    rw [heap_alloc_lt _ _ (by omega)]; exact hb5.block k hk
  refine ⟨by omega, hl1, hn, hz, hm, ⟨0, heap_alloc_new _ _⟩, ⟨.map (some gm), ?_⟩, ⟨arr, (hk _ (lt_of_heap hfb)).trans hfb, hfi⟩, ⟨sarr, (hk _ (lt_of_heap h9)).trans h9, h11⟩, ?_, ?_, ?_, ?_, ?_⟩
  · refine (hk _ (lt_of_heap h7)).trans (h7.trans ?_); rw [hm]
  · intro e; have := hρ _ e; omega
  · intro e; have := hρ _ e; omega
  · intro e; have := hρ _ e; omega
  · intro e; have := hρ _ e; omega
  · intro g e; have := hρ _ e; simp; omega

set_option maxHeartbeats 1600000 in
theorem law_any (a0 a1 a2 : Option Addr) (n0 c0 n1 c1 n2 c2 : Nat) (ts : List ByteArray) (ws zs : List Int) (w : World)
    (hr0 : Row w a0 n0 (fun k => .string (ts.getD k ByteArray.empty))) (hr1 : Row w a1 n1 (fun k => .int .i64 (ws.getD k 0))) (hr2 : Row w a2 n2 (fun k => .int .u8 (zs.getD k 0)))
    (hl0 : ts.length = n0) (hl1 : ws.length = n1) (hnil0 : a0 = none → n0 = 0) (hnil1 : a1 = none → n1 = 0) (hnil2 : a2 = none → n2 = 0)
    (m0 : n0 ≤ 9223372036854775807) (m1 : n1 ≤ 9223372036854775807) (m2 : n2 ≤ 9223372036854775807) :
    Calls Try.prog 6 #[.slice a0 n0 c0, .slice a1 n1 c1, .slice a2 n2 c2] w fun e w' => e = .returned (.bool true) ∧ Below w.heap.size w w' := by
  have HL0 := hid hl0
  have HL1 := hid hl1
  clear hl0 hl1
  go_enter Try.func6, Try.ntmps6
  go_wp2_with fail
  refine (zzBytes_any _ _ _ _ _ _ _ _ _ _ _ hr0 m0 m1 m2).mono ?_
  rintro e w' ⟨⟨x, rfl, hx⟩, rfl⟩
  cases x with
  | false =>
    go_wp2
    go_ret
    exact ⟨rfl, Below.refl _ _⟩
  | true =>
    obtain ⟨b0, b1, b2⟩ := hx rfl
    clear hx m0 m1 m2
    go_wp2_with fail
    refine (stringBytes_any _ _ _ _ _ hr0 b0).mono ?_
    rintro e w' ⟨⟨x, rfl⟩, rfl⟩
    by_cases h1000 : 1000 < n0
    · go_wp2
      all_goals go_ret
      all_goals exact ⟨rfl, Below.refl _ _⟩
    · by_cases hneq : n1 = n0
      · subst hneq
        have hbq : ((n1 : Int) != (n1 : Int)) = false := by simp
        go_wp2_with fail
        · go_ret
          exact ⟨rfl, Below.refl _ _⟩
        · refine (lensFit_any _ _ _ _ _ _ hr0 b0).mono ?_
          rintro e w' ⟨⟨y, rfl, _⟩, rfl⟩
          cases y with
          | false =>
            go_wp2
            go_ret
            exact ⟨rfl, Below.refl _ _⟩
          | true =>
            go_wp2_with fail
            refine (widthsFit_any _ _ _ _ _ hr1 b1).mono ?_
            rintro e w' ⟨⟨y, rfl, hy⟩, rfl⟩
            cases y with
            | false =>
              go_wp2
              go_ret
              exact ⟨rfl, Below.refl _ _⟩
            | true =>
              have hz := hid (hy rfl)
              clear hy
              go_wp2_with fail
              refine (sum_any _ _ _ ws _ hr1 HL1.out hz.out (by omega)).mono ?_
              rintro e w' ⟨rfl, rfl⟩
              by_cases hsum : n2 = psum ws n1
              · have HSUM := hid hsum
                have hsq : ((n2 : Int) != ((psum ws n1 : Nat) : Int)) = false := by rw [hsum]; simp
                clear hsum
                go_wp2_with fail
                refine (cloneStrs_any _ _ _ _ _ hr0 hnil0 b0).mono ?_
                rintro e w1 ⟨a0', rfl, ho0⟩
                go_wp2_with fail
                refine (cloneInts_any _ _ _ _ _ (hr1.later ho0.below) hnil1 b1).mono ?_
                rintro e w2 ⟨a1', rfl, ho1⟩
                go_wp2_with fail
                refine (cloneBytes_any _ _ _ _ _ ((hr2.later ho0.below).later ho1.below) hnil2 b2).mono ?_
                rintro e w3 ⟨a2', rfl, ho2⟩
                go_wp2_with fail
                have R0 := ((ho0.row).later ho1.below).later ho2.below
                have R1 := (ho1.row).later ho2.below
                obtain ⟨ρ, hρ, ht, hρlt, hta⟩ := ho2.txt (blank ts ws)
                have hb2 : Below w'.heap.size w' w2 := ho0.below.trans (ho1.below.mono ho0.below.size)
                have hb23 := ho2.below
                have Q0 := (ho0.row).later ho1.below
                have Q1 := ho1.row
                have hs12 := hb2.size
                clear ho0 ho1 ho2 hr0 hr1 hr2 hnil0 hnil1 hnil2
                refine (layout_any _ _ _ _ _ _ ws _ R0 R1 (by omega) HL1.out hz.out).mono ?_
                rintro e w4 ⟨l, gf, gs, arr, rfl, hlay, hgf, hfb, hfi, hb4⟩
                go_wp2_with fail
                refine (recordOf_any l n2 a2' _).mono ?_
                rintro e w5 ⟨rfl, hb5⟩
                go_wp2_with fail
                have hrec := mkRec (ta := a2') HL0.out HL1.out (by omega) hz.out HSUM.out hρlt hlay hgf hfb hfi hb4 hb5
                have htx : Txt (w5.alloc (.cells #[.int .i64 0, .pointer (some ⟨l, 0, none⟩), .slice a2' n2 n2] 48)) ρ n2 a2' (blank ts ws) 0 := ((ht.later hb4).later hb5).later ((Below.refl _ _).alloc (Nat.le_refl _) _)
                have hbb : Below w2.heap.size w2 (w5.alloc (.cells #[.int .i64 0, .pointer (some ⟨l, 0, none⟩), .slice a2' n2 n2] 48)) :=
                  (((hb23.trans (hb4.mono hb23.size)).trans (hb5.mono (Nat.le_trans hb23.size hb4.size))).alloc (by have := hb23.size; have := hb4.size; have := hb5.size; omega) _)
                have hρ2 : ∀ k, ρ = some k → w2.heap.size ≤ k := fun k e => by rcases hρ with h | h <;> rw [h] at e <;> cases e; exact Nat.le_refl _
                clear ht hb4 hb5 hlay hgf hfb hfi hb23 R0 R1 hρ hρlt
                generalize w5.alloc (.cells #[.int .i64 0, .pointer (some ⟨l, 0, none⟩), .slice a2' n2 n2] 48) = w6 at *
                generalize w5.heap.size = r at *
                refine (clear_any r l gf gs n1 n2 ρ a2' ts ws w6 hrec htx).mono ?_
                rintro e w7 ⟨rfl, hg7, ht7⟩
                have hrec7 := hrec.kept hg7
                have hbb7 := hbb.grown hg7 hbb.size hρ2
                clear hrec hbb hg7 htx
                obtain ⟨line, q7⟩ := hrec7.rc
                have c0 := cell_at q7 (j := 0) rfl
                have c1 := cell_at q7 (j := 1) rfl
                have c2 := cell_at q7 (j := 2) rfl
                have HREC := hid hrec7
                have HBB := hid hbb7
                have HT := hid ht7
                clear hrec7 hbb7 q7 ht7
                go_wp2_with fail
                have hBL : (blank ts ws).length = n2 := by rw [blank_len ts ws (by rw [HL0.out, HL1.out]), HL1.out, HSUM.out]
                refine (recString_any line l n2 ρ a2' (blank ts ws) w7 HT.out hBL hta).mono ?_
                rintro e w8 ⟨rfl, hb8, _⟩
                have hrec8 := HREC.out.kept (grown_any (grown_of_below hb8) ρ)
                have ht8 := HT.out.later hb8
                have hbb8 := HBB.out.trans (hb8.mono HBB.out.size)
                clear HREC HBB HT c0 c1 c2 hb8
                go_wp2_with fail
                refine (clear_any r l gf gs n1 n2 ρ a2' ts ws w8 hrec8 (ht8.mono0)).mono ?_
                rintro e w9 ⟨rfl, hg9, ht9⟩
                have hrec9 := hrec8.kept hg9
                have hbb9 := hbb8.grown hg9 hbb8.size hρ2
                clear hrec8 hbb8 hg9 ht8
                obtain ⟨line9, q9⟩ := hrec9.rc
                have c0 := cell_at q9 (j := 0) rfl
                have c1 := cell_at q9 (j := 1) rfl
                have c2 := cell_at q9 (j := 2) rfl
                have HREC := hid hrec9
                have HBB := hid hbb9
                have HT := hid ht9
                clear hrec9 hbb9 q9 ht9
                go_wp2_with fail
                refine (recString_any line9 l n2 ρ a2' (blank ts ws) w9 HT.out hBL hta).mono ?_
                rintro e w10 ⟨rfl, hb10, _⟩
                have hrec10 := HREC.out.kept (grown_any (grown_of_below hb10) ρ)
                have hbb10 := HBB.out.trans (hb10.mono HBB.out.size)
                clear HREC HBB HT c0 c1 c2 hb10
                go_wp2_with fail
                refine (newRecord_any l gf gs n1 n2 ts ws w10 (by rw [HL0.out, HL1.out]) HL1.out (by omega) hz.out HSUM.out hrec10.lay hrec10.fields hrec10.starts).mono ?_
                rintro e w11 ⟨gt, rfl, ht11, hb11⟩
                have hbb11 := hbb10.trans (hb11.mono hbb10.size)
                clear hrec10 hbb10 hb11
                go_wp2_with fail
                refine (recString_any 0 l n2 (some gt) (some ⟨gt, 0, none⟩) (blank ts ws) w11 ht11 hBL (Or.inr ⟨_, rfl⟩)).mono ?_
                rintro e w12 ⟨rfl, hb12, _⟩
                have hbb12 := hbb11.trans (hb12.mono hbb11.size)
                have P0 := Q0.later hbb12
                have P1 := Q1.later hbb12
                clear hbb11 hb12 ht11 Q0 Q1
                go_wp2_with fail
                refine (blank_any _ _ _ _ _ ts ws _ P0 P1 (by rw [HL0.out, HL1.out]) HL1.out (by omega) hz.out).mono ?_
                rintro e w13 ⟨v, rfl, hown, hb13⟩
                obtain ⟨av, capv, hv, hrow⟩ := row_of_owns hown
                rw [hv]
                have hbb13 := hbb12.trans (hb13.mono hbb12.size)
                clear hown hb13 hbb12 P0 P1 hv
                go_wp2_with fail
                refine (sameText_any av _ capv (blank ts ws) _ hrow (by rw [hBL, HSUM.out]) (blank_range ts ws) (by have := psum_bound ws n1 HL1.out hz.out n1 (Nat.le_refl _); omega)).mono ?_
                rintro e w14 ⟨rfl, hb14⟩
                go_wp2
                go_ret
                exact ⟨rfl, hb2.trans ((hbb13.trans (hb14.mono hbb13.size)).mono hs12)⟩
              · have hsq : ((n2 : Int) != ((psum ws n1 : Nat) : Int)) = true := by simp; omega
                go_wp2
                go_ret
                exact ⟨rfl, Below.refl _ _⟩
      · have hbq : ((n1 : Int) != (n0 : Int)) = true := by simp; omega
        go_wp2
        all_goals go_ret
        all_goals exact ⟨rfl, Below.refl _ _⟩
end Go.Proofs.Qxb6003707a.Ofd
