/-
  Memory that is kept but for some blocks ('Kp'); the contracts of (*bytes.Reader).ReadAt and image.ReadFull as they are used here.
-/
import Derived.Test.Qxb6616795aFmtErr
import Derived.Laws.CopyOwn
import Derived.LaidEql
import Derived.Deep.QuietTactic
import Derived.BigQuiet
namespace Go.Proofs.Qxb6616795aFmt
open Go.RowKit Go.Extern.Stop Go.Stop Go.Extern

/-- w' is w with new blocks, and with writes to the blocks of S alone. -/
structure Kp (S : Nat → Prop) (w w' : World) : Prop where
  os : w'.os = w.os
  tape : w'.tape = w.tape
  output : w'.output = w.output
  size : w.heap.size ≤ w'.heap.size
  block : ∀ k, k < w.heap.size → ¬ S k → w'.heap[k]? = w.heap[k]?

theorem Kp.refl (S : Nat → Prop) (w : World) : Kp S w w := ⟨rfl, rfl, rfl, Nat.le_refl _, fun _ _ _ => rfl⟩
theorem Kp.trans {S T : Nat → Prop} {a b c : World} (h : Kp S a b) (k : Kp T b c) (hT : ∀ i, i < a.heap.size → T i → S i) : Kp S a c :=
  ⟨k.os.trans h.os, k.tape.trans h.tape, k.output.trans h.output, Nat.le_trans h.size k.size,
   fun i hi hs => (k.block i (Nat.lt_of_lt_of_le hi h.size) (fun t => hs (hT i hi t))).trans (h.block i hi hs)⟩
theorem Kp.mono {S T : Nat → Prop} {a b : World} (h : Kp S a b) (hS : ∀ i, i < a.heap.size → S i → T i) : Kp T a b :=
  ⟨h.os, h.tape, h.output, h.size, fun i hi ht => h.block i hi (fun s => ht (hS i hi s))⟩
theorem Kp.drew {S : Nat → Prop} {a b : World} (h : Kp S a b) : Kp S a b.drew := ⟨h.os, h.tape, h.output, h.size, h.block⟩
theorem Kp.drewN {S : Nat → Prop} {a b : World} (h : Kp S a b) (n : Nat) : Kp S a (b.drewN n) := ⟨h.os, h.tape, h.output, h.size, h.block⟩
theorem Kp.alloc {S : Nat → Prop} {a b : World} (h : Kp S a b) (o : Obj) : Kp S a (b.alloc o) :=
  ⟨h.os, h.tape, h.output, Nat.le_trans h.size (by simp), fun i hi hs => (Below.heap_alloc _ _ _ (Nat.lt_of_lt_of_le hi h.size)).trans (h.block i hi hs)⟩
theorem Kp.setCell {S : Nat → Prop} {a b : World} (h : Kp S a b) {p : Addr} (hp : p.block < a.heap.size → S p.block) (u : Value) : Kp S a (b.setCell p u) :=
  ⟨h.os, h.tape, h.output, Nat.le_trans h.size (by simp [World.setCell]),
   fun i hi hs => (Below.heap_setCell _ _ _ _ (fun e => hs (by rw [e]; exact hp (by omega)))).trans (h.block i hi hs)⟩
theorem Kp.setRow {S : Nat → Prop} {a b : World} (h : Kp S a b) {g : Nat} (hp : g < a.heap.size → S g) (cs : Array Value) : Kp S a (b.setRow g cs) :=
  ⟨h.os, h.tape, h.output, Nat.le_trans h.size (by simp [World.setRow]),
   fun i hi hs => (setRow_other _ _ _ _ (fun e => hs (by rw [e]; exact hp (by omega)))).trans (h.block i hi hs)⟩
theorem Kp.of_below {S : Nat → Prop} {a b : World} (h : Below a.heap.size a b) : Kp S a b := ⟨h.os, h.tape, h.output, h.size, fun i hi _ => h.block i hi⟩
theorem Kp.below {S : Nat → Prop} {a b : World} {B : Nat} (h : Kp S a b) (hB : B ≤ a.heap.size) (hS : ∀ i, S i → B ≤ i) : Below B a b :=
  ⟨h.os, h.tape, h.output, h.size, fun i hi => h.block i (by omega) (fun s => by have := hS i s; omega)⟩
theorem Kp.cell {S : Nat → Prop} {a b : World} (h : Kp S a b) {p : Addr} {v : Value} (hc : a.cell? p = some v) (hs : ¬ S p.block) : b.cell? p = some v :=
  (World.cell?_of_block (w := a) (h.block p.block (World.block_lt_of_cell? _ _ hc) hs)).trans hc
theorem Kp.row {S : Nat → Prop} {a b : World} (h : Kp S a b) {g : Nat} {o : Obj} (hc : a.heap[g]? = some o) (hs : ¬ S g) : b.heap[g]? = some o :=
  (h.block g (Array.getElem?_eq_some_iff.1 hc).1 hs).trans hc

theorem hide {p : Prop} (h : p) : Hid p := h

def bytesV (D : List Int) : List Value := D.map (Value.int .u8)

set_option maxRecDepth 100000 in
set_option maxHeartbeats 800000 in
theorem readAt_far (rb g : Nat) (da : Option Addr) (n cap : Nat) (off : Nat) (ve : Value) (w : World) (c0 : w.cell? ⟨rb, 0, none⟩ = some (.slice da n cap)) (ce : w.cell? ⟨0, 0, none⟩ = some ve)
    (hoff : n ≤ off) :
    Calls Tryf.prog 36 #[.pointer (some ⟨rb, 0, none⟩), .slice (some ⟨g, 0, none⟩) 512 512, .int .i64 off] w fun e w' => e = .returned (.tuple #[.int .i64 0, ve]) ∧ ∃ m, w' = w.drewN m := by
  go_enter Tryf.func36, Tryf.ntmps36
  go_wp2
  go_quiet (fail)
  go_wp2
  go_ret2
  exact ⟨rfl, _, rfl⟩

theorem nmin (a b : Nat) : Nat.min a b = if a ≤ b then a else b := by
  by_cases h : a ≤ b
  · rw [if_pos h]; exact Nat.min_eq_left h
  · rw [if_neg h]; exact Nat.min_eq_right (by omega)

theorem bytes_at {w : World} {db : Nat} {D : List Int} {t : TypeId} {fr : Nat × Nat} (hdb : w.heap[db]? = some (.cells (bytesV D).toArray t fr)) (off m : Nat) :
    ∀ j v, (bytesV ((D.drop off).take m))[j]? = some v → w.cell? ((⟨db, off, none⟩ : Addr).add j) = some v := by
  intro j v hv
  have hadd : (⟨db, off, none⟩ : Addr).add j = ⟨db, off + j, none⟩ := by unfold Addr.add; split <;> simp_all
  rw [hadd, cell_of_row w db (off + j) _ t fr hdb]
  simp only [bytesV, List.getElem?_map, List.getElem?_take, List.getElem?_drop, List.getElem?_toArray] at hv ⊢
  split at hv
  · exact hv
  · simp at hv

theorem bytes_one (D : List Int) : ∀ v ∈ bytesV D, v.oneCell' = true := by
  intro v hv
  simp only [bytesV, List.mem_map] at hv
  obtain ⟨x, _, rfl⟩ := hv
  rfl


theorem copy_bytes (g db off dl dc sl sc : Nat) (D : List Int) (cur : List Value) (w : World) (hdb : w.heap[db]? = some (.cells (bytesV D).toArray 5 (0, 0)))
    (hg : w.heap[g]? = some (.cells cur.toArray 5 (0, 0))) (hD : off + sl ≤ D.length) (k : Nat) (hk : Nat.min sl dl = k) (hc : k ≤ cur.length) :
    (Builtin.copy_ #[22, 22] 3 #[.slice (some ⟨g, 0, none⟩) dl dc, .slice (some ⟨db, off, none⟩) sl sc]).run Tryf.prog w =
      .ok (.int .i64 k) (w.setRow g (bytesV ((D.drop off).take k) ++ cur.drop k).toArray) := by
  have hle : k ≤ sl := hk ▸ Nat.min_le_left _ _
  have hl : (bytesV ((D.drop off).take k)).length = k := by simp [bytesV]; omega
  have h := run_copy_row (P := Tryf.prog) w 22 22 3 5 g 0 dl dc ⟨db, off, none⟩ sl sc cur.toArray 5 (bytesV ((D.drop off).take k)) Tryf.underlying22 (by kernel_rfl) hg (by rw [hl, hk]) (bytes_at hdb off k) (by simp; omega) (bytes_one _)
  rw [h, hl]
  simp [goInt]

set_option maxRecDepth 100000 in
set_option maxHeartbeats 800000 in
theorem readAt_near (rb g db : Nat) (D : List Int) (n : Nat) (off : Nat) (cur : List Value) (w : World) (c0 : w.cell? ⟨rb, 0, none⟩ = some (.slice (some ⟨db, 0, none⟩) n n))
    (hdb : w.heap[db]? = some (.cells (bytesV D).toArray 5 (0, 0))) (hg : w.heap[g]? = some (.cells cur.toArray 5 (0, 0))) (hcur : cur.length = 512) (hD : D.length = n)
    (hoff : off + 512 ≤ n) (_ho : n ≤ 1048576) :
    Calls Tryf.prog 36 #[.pointer (some ⟨rb, 0, none⟩), .slice (some ⟨g, 0, none⟩) 512 512, .int .i64 off] w fun e w' => e = .returned (.tuple #[.int .i64 512, .nilIface]) ∧
      w'.heap[g]? = some (.cells (bytesV ((D.drop off).take 512)).toArray 5 (0, 0)) ∧ Kp (fun k => k = g) w w' := by
  have hrun := copy_bytes g db off 512 512 (n - off) (n - off) D cur w hdb hg (by omega) 512 (Nat.min_eq_right (by omega)) (by omega)
  have e0 : cur.drop 512 = [] := List.drop_of_length_le (by omega)
  rw [e0, List.append_nil] at hrun
  obtain ⟨X, hX⟩ : ∃ X, X = (bytesV ((D.drop off).take 512)).toArray := ⟨_, rfl⟩
  rw [← hX] at hrun
  have HG : Hid (w.heap[g]? = some (.cells cur.toArray 5 (0, 0))) := hg
  have HX : Hid (X = (bytesV ((D.drop off).take 512)).toArray) := hX
  clear hdb hg hX e0 hcur hD
  go_enter Tryf.func36, Tryf.ntmps36
  go_wp2
  go_ret2
  refine ⟨rfl, ?_, (Kp.refl (fun k => k = g) w).setRow (fun _ => rfl) _⟩
  rw [← HX.out]
  exact setRow_heap w g _ _ _ _ HG.out

set_option maxRecDepth 100000 in
set_option maxHeartbeats 800000 in
theorem readAt_short (rb g db : Nat) (D : List Int) (n : Nat) (off : Nat) (ve : Value) (cur : List Value) (w : World) (c0 : w.cell? ⟨rb, 0, none⟩ = some (.slice (some ⟨db, 0, none⟩) n n))
    (ce : w.cell? ⟨0, 0, none⟩ = some ve) (h0g : 0 ≠ g)
    (hdb : w.heap[db]? = some (.cells (bytesV D).toArray 5 (0, 0))) (hg : w.heap[g]? = some (.cells cur.toArray 5 (0, 0))) (hcur : cur.length = 512) (hD : D.length = n)
    (hoff : off < n) (hoff2 : n < off + 512) (_ho : n ≤ 1048576) :
    Calls Tryf.prog 36 #[.pointer (some ⟨rb, 0, none⟩), .slice (some ⟨g, 0, none⟩) 512 512, .int .i64 off] w fun e w' => (∃ k : Nat, k < 512 ∧ e = .returned (.tuple #[.int .i64 k, ve])) ∧ Kp (fun k => k = g) w w' := by
  have hrun := copy_bytes g db off 512 512 (n - off) (n - off) D cur w hdb hg (by omega) (n - off) (Nat.min_eq_left (by omega)) (by omega)
  obtain ⟨X, hX⟩ : ∃ X, X = (bytesV ((D.drop off).take (n - off)) ++ cur.drop (n - off)).toArray := ⟨_, rfl⟩
  rw [← hX] at hrun
  obtain ⟨k, hk⟩ : ∃ k, k = n - off := ⟨_, rfl⟩
  rw [← hk] at hrun
  have ce2 : (w.setRow g X).cell? ⟨0, 0, none⟩ = some ve := ((Kp.refl (fun k => k = g) w).setRow (fun _ => rfl) X).cell ce h0g
  have hk1 : (k : Int) < 512 := by omega
  have HK : Hid (k = n - off) := hk
  have hkn : n - off = k := hk.symm
  clear hdb hg hX hcur hD hk
  go_enter Tryf.func36, Tryf.ntmps36
  go_wp2
  go_ret2
  exact ⟨⟨k, by omega, rfl⟩, (Kp.refl (fun k => k = g) w).setRow (fun _ => rfl) _⟩


/-- What the reader's slice is: nil and no bytes; or a block of its own that holds the bytes D. -/
def DiskAt (w : World) (dv : Value) (D : List Int) : Prop :=
  (dv = .slice none 0 0 ∧ D = []) ∨ ∃ db, dv = .slice (some ⟨db, 0, none⟩) D.length D.length ∧ w.heap[db]? = some (.cells (bytesV D).toArray 5 (0, 0))

theorem readAt_fail (rb g : Nat) (dv : Value) (D : List Int) (off : Nat) (ve : Value) (cur : List Value) (w : World) (c0 : w.cell? ⟨rb, 0, none⟩ = some dv)
    (ce : w.cell? ⟨0, 0, none⟩ = some ve) (h0g : 0 ≠ g) (hd : DiskAt w dv D) (hg : w.heap[g]? = some (.cells cur.toArray 5 (0, 0))) (hcur : cur.length = 512)
    (hoff2 : D.length < off + 512) (ho : D.length ≤ 1048576) :
    Calls Tryf.prog 36 #[.pointer (some ⟨rb, 0, none⟩), .slice (some ⟨g, 0, none⟩) 512 512, .int .i64 off] w fun e w' => (∃ k : Nat, k < 512 ∧ e = .returned (.tuple #[.int .i64 k, ve])) ∧ Kp (fun k => k = g) w w' := by
  rcases hd with ⟨rfl, rfl⟩ | ⟨db, rfl, hdb⟩
  · exact (readAt_far rb g none 0 0 off ve w c0 ce (Nat.zero_le _)).mono fun e w' ⟨he, m, hm⟩ => ⟨⟨0, by omega, he⟩, by rw [hm]; exact (Kp.refl _ _).drewN m⟩
  · by_cases hf : D.length ≤ off
    · exact (readAt_far rb g _ _ _ off ve w c0 ce hf).mono fun e w' ⟨he, m, hm⟩ => ⟨⟨0, by omega, he⟩, by rw [hm]; exact (Kp.refl _ _).drewN m⟩
    · exact readAt_short rb g db D _ off ve cur w c0 ce h0g hdb hg hcur rfl (by omega) hoff2 ho

@[go_sem] theorem method_ReadAt (a : Addr) (w : World) : (method 188 35 (.pointer (some a)) "ReadAt").run Tryf.prog w = .ok (36, .pointer (some a)) w := by kernel_rfl

set_option maxRecDepth 100000 in
set_option maxHeartbeats 800000 in
theorem readFull_near (rb g db : Nat) (D : List Int) (n : Nat) (off : Nat) (cur : List Value) (w : World) (c0 : w.cell? ⟨rb, 0, none⟩ = some (.slice (some ⟨db, 0, none⟩) n n))
    (hdb : w.heap[db]? = some (.cells (bytesV D).toArray 5 (0, 0))) (hg : w.heap[g]? = some (.cells cur.toArray 5 (0, 0))) (hcur : cur.length = 512) (hD : D.length = n)
    (hoff : off + 512 ≤ n) (ho : n ≤ 1048576) :
    Calls Tryf.prog 8 #[.iface 35 (.pointer (some ⟨rb, 0, none⟩)), .slice (some ⟨g, 0, none⟩) 512 512, .int .i64 off] w fun e w' => e = .returned .nilIface ∧
      w'.heap[g]? = some (.cells (bytesV ((D.drop off).take 512)).toArray 5 (0, 0)) ∧ Kp (fun k => k = g) w w' := by
  have HH := hide (readAt_near rb g db D n off cur w c0 hdb hg hcur hD hoff ho)
  clear hdb hg
  go_enter Tryf.func8, Tryf.ntmps8
  go_wp2_with (go_at_call 36; refine HH.out.mono ?_)
  rintro e w' ⟨rfl, hr, hk⟩
  have HR := hide (hr)
  have HK := hide (hk)
  clear hr hk HH
  go_wp2
  go_ret
  exact ⟨rfl, HR.out, HK.out⟩

theorem isComp : (Tryf.prog.info? 63).map (·.comparable) = some true := by kernel_rfl
theorem isSize : (Tryf.prog.info? 65).map (·.size) = some 1 := by kernel_rfl
theorem eql_same (a : Addr) (w : World) : (binOp .eql 27 (.iface 63 (.pointer (some a))) (.iface 63 (.pointer (some a)))).run Tryf.prog w = .ok (.bool true) w := by
  obtain ⟨i, hi, hcmp⟩ := Option.map_eq_some_iff.1 isComp
  obtain ⟨j, hj, _⟩ := Option.map_eq_some_iff.1 isSize
  exact run_eql_iface_ptr_same (P := Tryf.prog) w a Tryf.underlying27 Tryf.underlying63 hi hcmp hj

set_option maxRecDepth 100000 in
set_option maxHeartbeats 800000 in
theorem readFull_fail (rb g : Nat) (dv : Value) (D : List Int) (off : Nat) (pe pu : Addr) (su : ByteArray) (cur : List Value) (w : World) (c0 : w.cell? ⟨rb, 0, none⟩ = some dv)
    (ce : w.cell? ⟨0, 0, none⟩ = some (.iface 63 (.pointer (some pe)))) (cu : w.cell? ⟨1, 0, none⟩ = some (.iface 63 (.pointer (some pu)))) (cs : w.cell? pu = some (.string su))
    (h0g : 0 ≠ g) (h1g : 1 ≠ g) (hpg : pu.block ≠ g) (hd : DiskAt w dv D) (hg : w.heap[g]? = some (.cells cur.toArray 5 (0, 0))) (hcur : cur.length = 512)
    (hoff2 : D.length < off + 512) (ho : D.length ≤ 1048576) (hoff3 : off ≤ 144115188075855872) :
    Calls Tryf.prog 8 #[.iface 35 (.pointer (some ⟨rb, 0, none⟩)), .slice (some ⟨g, 0, none⟩) 512 512, .int .i64 off] w fun e w' => (∃ N, e = .returned (.iface 61 (.pointer (some N)))) ∧ Kp (fun k => k = g) w w' := by
  have HH := hide (readAt_fail rb g dv D off _ cur w c0 ce h0g hd hg hcur hoff2 ho)
  have HC := hide (cu)
  have HS := hide (cs)
  have HE := hide (ce)
  clear hd hg cu cs ce c0
  go_enter Tryf.func8, Tryf.ntmps8
  go_wp2_with (go_at_call 36; refine HH.out.mono ?_)
  rintro e w' ⟨⟨k, hk, rfl⟩, hK⟩
  have ce := hK.cell HE.out h0g
  have cu := hK.cell HC.out h1g
  have cs := hK.cell HS.out hpg
  have HK := hide (hK)
  clear hK HH
  have hk2 : (k : Int) < 512 := by omega
  have heq := eql_same pe w'
  have hsz := HK.out.size
  have hp2 : pu.block < w'.heap.size := World.block_lt_of_cell? _ _ cs
  have cs1 : ∀ o, (w'.alloc o).cell? pu = some (.string su) := fun o => (World.cell?_alloc_lt _ _ _ hp2).trans cs
  go_wp2_with (go_at_call 15; refine (errorf_dw ((off : Int) + k) pu su _ _ ?c0 ?c1 ?c2).mono ?_)
  case c0 => go_simp
  case c1 => go_simp
  case c2 => exact cs1 _
  rintro e w2 ⟨⟨N, rfl⟩, hb⟩
  go_wp2
  go_ret
  exact ⟨⟨_, rfl⟩, (HK.out.alloc _).trans (Kp.of_below hb) (fun _ _ h => h)⟩
end Go.Proofs.Qxb6616795aFmt
