import Derived.Test.Qxb6003783aFldC
import Derived.Deep.RegionHeld3
import Derived.Deep.AppendLies
namespace Go.Proofs.Qxb6003783a.Fld
open Go.RowKit Mem
set_option linter.unusedVariables false

theorem Safe.alloc {o : Option Nat} {m : Nat} (w : World) (x : Obj) : Safe o m w (w.alloc x) := ⟨by simp, fun q arr t f hq _ _ => heap_alloc_lt w x (lt_of_heap hq)⟩
theorem Safe.trans' {o : Option Nat} {m : Nat} {w w1 w2 : World} (h : Safe o m w w1) (k : Safe o m w1 w2) : Safe o m w w2 :=
  ⟨Nat.le_trans h.1 k.1, fun q arr t f hq ho hm => by
    have e := h.2 q arr t f hq ho hm
    exact (k.2 q arr t f (e.trans hq) ho hm).trans e⟩
theorem Safe.drew {o : Option Nat} {m : Nat} {w w' : World} (h : Safe o m w w') : Safe o m w w'.drew := ⟨h.1, h.2⟩
theorem Bytes.drew {w : World} {base : Nat} {v : Value} {xs : List Int} (h : Bytes w base v xs) : Bytes w.drew base v xs := h
theorem grown_byte {w w' : World} {x : Obj} {r : Option Nat} (hg : (w.alloc x).drew.grownBy w' r) : w.grownBy w' r := by
  have h := grown_alloc w x r
  exact grown_trans (b := (w.alloc x).drew) ⟨h.os, h.tape, h.output, h.size, h.block⟩ hg
/-- Block g holds the write. -/
def Box (w : World) (g : Nat) (k t : ByteArray) (d : Bool) : Prop := w.heap[g]? = some (.cells #[.string k, .string t, .bool d] 39 (0, 0))
theorem Box.safe {w w' : World} {g : Nat} {k t : ByteArray} {d : Bool} {o : Option Nat} {m : Nat} (h : Box w g k t d) (s : Safe o m w w') (ho : some g ≠ o) : Box w' g k t d := (s.2 g _ 39 _ h ho (Or.inl (by decide))).trans h
theorem Box.key {w : World} {g : Nat} {k t : ByteArray} {d : Bool} (h : Box w g k t d) : w.cell? ⟨g, 0, none⟩ = some (.string k) := cell_at h rfl
theorem Box.val {w : World} {g : Nat} {k t : ByteArray} {d : Bool} (h : Box w g k t d) : w.cell? ⟨g, 1, none⟩ = some (.string t) := cell_at h rfl
theorem Box.del {w : World} {g : Nat} {k t : ByteArray} {d : Bool} (h : Box w g k t d) : w.cell? ⟨g, 2, none⟩ = some (.bool d) := cell_at h rfl

def fld (s : ByteArray) : List Int := uv s.size ++ sb s
def enc (k t : ByteArray) (d : Bool) : List Int := if d then 2 :: fld k else 1 :: (fld k ++ fld t)

theorem Bytes.top {w : World} {base : Nat} {v : Value} {xs : List Int} (h : Bytes w base v xs) : ∀ q, v.ownBlock = some q → q < w.heap.size := by
  intro q hq
  obtain ⟨h1, h2⟩ := h
  rcases h2 with ⟨e1, _⟩ | ⟨g, cap, cur, e1, e2, e3, e4⟩
  · rw [e1] at hq; cases hq
  · rw [e1] at hq; cases hq; exact lt_of_heap e3

def RetEnc (e : Ending) (w w' : World) (base : Nat) (o : Option Nat) (m : Nat) (ys : List Int) : Prop := ∃ v', e = .returned v' ∧ Bytes w' base v' ys ∧ Below base w w' ∧ Safe o m w w'

/-- 'append(b, c)' as one step of a region that draws its order. -/
theorem step_byte {wx : World} {ops : Array Oper} {o : Oper} {a : Act} {K : Act → World → Prop} {Q : Exit → Act → World → Prop} {E : Prop} (hgd : o.guard = none) (s x : Operand)
    (ho : o.op = .call { callee := .builtin .append, args := #[s, x], argTypes := #[22, 22] }) (base : Nat) (xs : List Int) (v : Value) (hs : a.eval s = v) (hown : Bytes wx base v xs) (c : Int) (H : Nat)
    (hx : a.eval x = .slice (some ⟨H, 0, none⟩) 1 1) (hc : wx.cell? ⟨H, 0, none⟩ = some (.int .u8 c)) (hb : xs.length ≤ 1000000000) (hbase : base ≤ wx.heap.size)
    (h : ∀ v' w', Bytes w' base v' (xs ++ [c]) → wx.grownBy w' v.ownBlock → K (a.put o.dst v') w') :
    if Region.wanted o (yielded ops a.tmps) = true then Oper.wp Try.prog o a wx K Q else E := by
  obtain ⟨i0, hi, hz0, hz1, hz2⟩ := info_parts Try.info5
  refine step_append_lies wx hgd s x 22 ho base 5 i0 (.int .u8 0) 1 1 Try.underlying22 hi hz0 hz1 hz2 rfl (by decide) v xs.length (xs.map (.int .u8)) hs hown ⟨H, 0, none⟩ 1 1 [.int .u8 c] hx rfl ?_ (ints_oneCell .u8 [c]) (by decide) (by unfold maxLen; omega) (by omega) hbase wx.heap.size rfl ?_
  · intro j u hj
    match j, hj with
    | 0, hj => simp at hj; subst hj; simpa [Addr.add] using hc
  intro g cap w' h1 h2 _ _
  refine h _ w' ?_ h2
  unfold Bytes
  rw [List.length_append, List.map_append]; exact h1

set_option maxRecDepth 100000 in
set_option maxHeartbeats 1600000 in
theorem appendWrite_any (v : Value) (xs : List Int) (k t : ByteArray) (d : Bool) (base : Nat) (w : World) (hy : Bytes w base v xs) (hl : xs.length ≤ 10000000) (hk : k.size ≤ 1048576) (ht : t.size ≤ 1048576) (hbase : base ≤ w.heap.size) :
    Calls Try.prog 14 #[v, .agg #[.string k, .string t, .bool d]] w fun e w' => RetEnc e w w' base v.ownBlock (xs.length + 1) (xs ++ enc k t d) := by
  have hbx : Box (w.alloc (.cells #[.string k, .string t, .bool d] 39)) w.heap.size k t d := heap_alloc_new _ _
  have hyb : Bytes (w.alloc (.cells #[.string k, .string t, .bool d] 39)) base v xs := Bytes.alloc hy _
  have hbb : Below base w (w.alloc (.cells #[.string k, .string t, .bool d] 39)) := (Below.refl _ _).alloc hbase _
  have hsb : Safe v.ownBlock (xs.length + 1) w (w.alloc (.cells #[.string k, .string t, .bool d] 39)) := Safe.alloc _ _
  have hsb := hid hsb
  have hno : some w.heap.size ≠ v.ownBlock := by
    intro e; have := Fld.Bytes.top hy _ e.symm; omega
  go_enter Try.func14, Try.ntmps14
  go_upto_region 1 with fail
  generalize hwb : w.alloc (.cells #[.string k, .string t, .bool d] 39) = wb at *
  clear hwb
  have hzb := hbb.size
  have c2 := hbx.del
  cases d with
  | true =>
    have E : Hid (xs ++ enc k t true = (xs ++ [2]) ++ (uv k.size ++ sb k)) := by show _ = _; simp [enc, fld]
    go_upto_region 2 with fail
    have c0 := hbx.key
    have c0d : wb.drew.cell? ⟨w.heap.size, 0, none⟩ = some (.string k) := c0
    go_region_held3 (fun w' => w'.cell? ⟨w.heap.size, 0, none⟩ = some (.string k)) (first | go_keep | exact k1 | exact k2)
      (first | ((refine step_byte (by rfl) (.tmp 7) (.tmp 8) (by rfl) base xs v (by rfl) (Bytes.alloc hyb _) 2 wb.heap.size (by rfl) (by simp) (by omega) (by simp; omega) ?_; intro v1 w1 hy1 hg1; have hs1 : Safe v.ownBlock (xs.length + 1) wb w1 := Safe.first (grown_byte hg1); have k1 := (hbx.safe hs1 hno).key)) | (go_at_call 17; refine (appendField_any _ (xs ++ [2]) k base (xs.length + 1) _ hy1 (by simp) (by simp; omega) hk (by have := hg1.size; simp at this; omega)).mono ?_; rintro e w2 ⟨v2, rfl, hy2, hb2, hs2⟩; have k2 := ((hbx.safe hs1 hno).safe hs2 (by simp)).key))
    go_wp2
    go_ret
    exact ⟨_, rfl, by rw [E.out]; exact hy2, (hbb.grown (grown_byte hg1) (by omega) hyb.lt).trans hb2, (hsb.out.trans' hs1).trans hs2⟩
  | false =>
    have E : Hid (xs ++ enc k t false = (xs ++ [1] ++ (uv k.size ++ sb k)) ++ (uv t.size ++ sb t)) := by show _ = _; simp [enc, fld]
    have hul := uv_len (x := k.size) (by omega)
    go_upto_region 3 with fail
    have c0 := hbx.key
    have c1 := hbx.val
    have hm1 : xs.length + 1 ≤ (xs ++ [1]).length := by simp
    have hl1 : (xs ++ [1]).length ≤ 100000000 := by simp; omega
    have hmm : xs.length + 1 ≤ (xs ++ [1] ++ (uv k.size ++ sb k)).length := by simp
    have hll : (xs ++ [1] ++ (uv k.size ++ sb k)).length ≤ 100000000 := by simp [sb_len]; omega
    have hzz : base ≤ wb.heap.size := by omega
    go_region_held3 (fun w' => w'.cell? ⟨w.heap.size, 0, none⟩ = some (.string k) ∧ w'.cell? ⟨w.heap.size, 1, none⟩ = some (.string t)) (first | go_keep | exact k3 | exact k2 | exact k1)
      (first | ((refine step_byte (by rfl) (.tmp 13) (.tmp 14) (by rfl) base xs v (by rfl) (Bytes.alloc hyb _) 1 wb.heap.size (by rfl) (by simp) (by omega) (by simp; omega) ?_; intro v1 w1 hy1 hg1; have hs1 : Safe v.ownBlock (xs.length + 1) wb w1 := Safe.first (grown_byte hg1); have k1 := And.intro (hbx.safe hs1 hno).key (hbx.safe hs1 hno).val; have HY1 := hid hy1; clear hy1)) | (go_at_call 17; have hy2 := HY2.out; refine (appendField_any v2 (xs ++ [1] ++ (uv k.size ++ sb k)) t base (xs.length + 1) w2 hy2 hmm hll ht (Nat.le_trans hz1 hs2.1)).mono ?_; rintro e w3 ⟨v3, rfl, hy3, hb3, hs3⟩; have k3 := And.intro (((hbx.safe hs1 hno).safe hs2 (by simp)).safe hs3 (by simp)).key (((hbx.safe hs1 hno).safe hs2 (by simp)).safe hs3 (by simp)).val) | (go_at_call 17; have hy1 := HY1.out; have hz1 : base ≤ w1.heap.size := Nat.le_trans hzz (grown_byte hg1).size; refine (appendField_any v1 (xs ++ [1]) k base (xs.length + 1) w1 hy1 hm1 hl1 hk hz1).mono ?_; rintro e w2 ⟨v2, rfl, hy2, hb2, hs2⟩; have k2 := And.intro ((hbx.safe hs1 hno).safe hs2 (by simp)).key ((hbx.safe hs1 hno).safe hs2 (by simp)).val; have HY2 := hid hy2; clear hy2; clear hy1; clear HY1))
    go_wp2
    go_ret
    exact ⟨_, rfl, by rw [E.out]; exact hy3, ((hbb.grown (grown_byte hg1) (by omega) hyb.lt).trans hb2).trans hb3, ((hsb.out.trans' hs1).trans hs2).trans hs3⟩

theorem zzappendWrite_any (v : Value) (xs : List Int) (k t : ByteArray) (d : Bool) (base : Nat) (w : World) (hy : Bytes w base v xs) (hl : xs.length ≤ 10000000) (hk : k.size ≤ 1048576) (ht : t.size ≤ 1048576) (hbase : base ≤ w.heap.size) :
    Calls Try.prog 9 #[v, .string k, .string t, .bool d] w fun e w' => RetEnc e w w' base v.ownBlock (xs.length + 1) (xs ++ enc k t d) := by
  go_enter Try.func9, Try.ntmps9
  go_wp2_with fail
  refine (appendWrite_any v xs k t d base w hy hl hk ht hbase).mono ?_
  rintro e w1 ⟨v1, rfl, hy1, hb1, hs1⟩
  go_wp2
  go_ret
  exact ⟨_, rfl, hy1, hb1, hs1⟩
end Go.Proofs.Qxb6003783a.Fld
