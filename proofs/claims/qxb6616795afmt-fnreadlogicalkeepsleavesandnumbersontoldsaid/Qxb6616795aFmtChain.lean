/-
  The contract of 'readLogical'.
-/
import Derived.Test.Qxb6616795aFmtChainL
import Derived.Deep.DeepCutAuto
namespace Go.Proofs.Qxb6616795aFmt
open Go.RowKit

theorem picks_succ (R : List Int) (k : Nat) : picks R (k + 1) = pick (picks R k) (entOf R k) := rfl
theorem index_ent (R : List Int) (k : Nat) (hk : k < 4) (w : World) : (Instr.index 44 (.agg (arrV R 4).toArray) (.int .i64 k)).run Tryf.prog w = .ok (.agg (entA (entOf R k))) w := by
  rcases (by omega : k = 0 ∨ k = 1 ∨ k = 2 ∨ k = 3) with rfl | rfl | rfl | rfl <;> kernel_rfl

def IS (G j : Nat) : Prop := j = G ∨ j = G + 1
/-- What the inner loop's relation says of memory. -/
def IM (G : Nat) (p : Ent × Ent) (w4 wi : World) : Prop :=
  wi.heap[G]? = some (.cells (entA p.1) 43 (0, 0)) ∧ wi.heap[G + 1]? = some (.cells (entA p.2) 43 (0, 0)) ∧ Kp (IS G) w4 wi
def K27 (G nb : Nat) (gst gkd gsa gsc m : Int) (w : World) : Prop :=
  w.cell? ⟨G, 0, none⟩ = some (.int .u8 gst) ∧ w.cell? ⟨G, 1, none⟩ = some (.int .u8 gkd) ∧ w.cell? ⟨G, 2, none⟩ = some (.int .i64 gsa) ∧ w.cell? ⟨G, 3, none⟩ = some (.int .i64 gsc) ∧ w.cell? ⟨nb, 0, none⟩ = some (.int .i64 m)
theorem K27.below {G nb : Nat} {gst gkd gsa gsc m : Int} {a b : World} (hb : Below a.heap.size a b) (h : K27 G nb gst gkd gsa gsc m a) : K27 G nb gst gkd gsa gsc m b := by
  have hk : Kp (fun _ => False) a b := Kp.of_below hb
  exact ⟨hk.cell h.1 (fun f => f), hk.cell h.2.1 (fun f => f), hk.cell h.2.2.1 (fun f => f), hk.cell h.2.2.2.1 (fun f => f), hk.cell h.2.2.2.2 (fun f => f)⟩
theorem K27.alloc {G nb : Nat} {gst gkd gsa gsc m : Int} {a : World} (o : Obj) (h : K27 G nb gst gkd gsa gsc m a) : K27 G nb gst gkd gsa gsc m (a.alloc o) :=
  K27.below ((Below.refl _ a).alloc (Nat.le_refl _) o) h
theorem K27.drew {G nb : Nat} {gst gkd gsa gsc m : Int} {a : World} (h : K27 G nb gst gkd gsa gsc m a) : K27 G nb gst gkd gsa gsc m a.drew := h
theorem K27.far {G nb : Nat} {gst gkd gsa gsc m : Int} {a : World} (X j : Nat) (v : Value) (hG : G ≠ X) (hn : nb ≠ X) (h : K27 G nb gst gkd gsa gsc m a) : K27 G nb gst gkd gsa gsc m (a.setCell ⟨X, j, none⟩ v) := by
  have hk : Kp (fun k => k = X) a (a.setCell ⟨X, j, none⟩ v) := (Kp.refl (fun k => k = X) a).setCell (fun _ => rfl) _
  exact ⟨hk.cell h.1 hG, hk.cell h.2.1 hG, hk.cell h.2.2.1 hG, hk.cell h.2.2.2.1 hG, hk.cell h.2.2.2.2 hn⟩

/-- What the cut behind 's := logical.span(*number, at)' says. -/
def Cut27 (w7 : World) (m fs ls : Int) (s : Value) (wc : World) : Prop :=
  ∃ X, s = .pointer (some ⟨X, 0, none⟩) ∧ w7.heap.size ≤ X ∧ wc.heap[X]? = some (.cells #[.int .i64 m, .int .i64 fs, .int .i64 ls] 32 (0, 0)) ∧ Kp (fun _ => False) w7 wc
theorem Cut27.late {w7 w6 : World} {m fs ls : Int} (hb : Below w7.drew.heap.size w7.drew w6) :
    Cut27 w7 m fs ls (.pointer (some ⟨w6.heap.size, 0, none⟩)) (w6.alloc (.cells #[.int .i64 m, .int .i64 fs, .int .i64 ls] 32)) :=
  ⟨_, rfl, hb.size, heap_alloc_new _ _, (Kp.of_below (show Below w7.heap.size w7 w6 from ⟨hb.os, hb.tape, hb.output, hb.size, hb.block⟩)).alloc _⟩
theorem Cut27.early {w7 w6 : World} {m fs ls : Int} {z0 z1 z2 : Value} (hb : Below (w7.alloc (.cells #[z0, z1, z2] 32)).drew.heap.size (w7.alloc (.cells #[z0, z1, z2] 32)).drew w6) :
    Cut27 w7 m fs ls (.pointer (some ⟨w7.heap.size, 0, none⟩)) (((w6.setCell ⟨w7.heap.size, 0, none⟩ (.int .i64 m)).setCell ⟨w7.heap.size, 1, none⟩ (.int .i64 fs)).setCell ⟨w7.heap.size, 2, none⟩ (.int .i64 ls)) := by
  have h0 : w6.heap[w7.heap.size]? = some (.cells #[z0, z1, z2] 32 (0, 0)) := (hb.block w7.heap.size (by show _ < (w7.alloc _).heap.size; simp)).trans (heap_alloc_new w7 _)
  refine ⟨_, rfl, Nat.le_refl _, ?_, ?_⟩
  · rw [heap_setCell_same _ _ _ _ _ _ (heap_setCell_same _ _ _ _ _ _ (heap_setCell_same _ _ _ _ _ _ h0))]
    rfl
  · have k6 : Kp (fun _ => False) w7 w6 := ((Kp.refl _ w7).alloc _).trans (Kp.of_below (show Below (w7.alloc (.cells #[z0, z1, z2] 32)).heap.size (w7.alloc (.cells #[z0, z1, z2] 32)) w6 from ⟨hb.os, hb.tape, hb.output, hb.size, hb.block⟩)) (fun _ _ h => h)
    exact ((k6.setCell (fun h => absurd h (by simp)) _).setCell (fun h => absurd h (by simp)) _).setCell (fun h => absurd h (by simp)) _

theorem IM.keep {G : Nat} {p : Ent × Ent} {w4 wr w2 : World} (h : IM G p w4 wr) (hk : Kp (fun _ => False) wr w2) : IM G p w4 w2 :=
  ⟨hk.row h.1 (fun f => f), hk.row h.2.1 (fun f => f), h.2.2.trans hk (fun _ _ f => f.elim)⟩
theorem IM.set1 {G : Nat} {lg lk : Ent} {w4 wr : World} (h : IM G (lg, lk) w4 wr) (e : Ent) :
    IM G (e, lk) w4 ((((wr.setCell ⟨G, 0, none⟩ (.int .u8 e.st)).setCell ⟨G, 1, none⟩ (.int .u8 e.kd)).setCell ⟨G, 2, none⟩ (.int .i64 e.sa)).setCell ⟨G, 3, none⟩ (.int .i64 e.sc)) := by
  refine ⟨?_, ?_, ?_⟩
  · rw [heap_setCell_same _ _ _ _ _ _ (heap_setCell_same _ _ _ _ _ _ (heap_setCell_same _ _ _ _ _ _ (heap_setCell_same _ _ _ _ _ _ h.1)))]
    rfl
  · rw [heap_setCell_other _ _ _ _ (by simp), heap_setCell_other _ _ _ _ (by simp), heap_setCell_other _ _ _ _ (by simp), heap_setCell_other _ _ _ _ (by simp)]
    exact h.2.1
  · exact (((h.2.2.setCell (fun _ => .inl rfl) _).setCell (fun _ => .inl rfl) _).setCell (fun _ => .inl rfl) _).setCell (fun _ => .inl rfl) _
theorem IM.set2 {G : Nat} {lg lk : Ent} {w4 wr : World} (h : IM G (lg, lk) w4 wr) (e : Ent) :
    IM G (lg, e) w4 ((((wr.setCell ⟨G + 1, 0, none⟩ (.int .u8 e.st)).setCell ⟨G + 1, 1, none⟩ (.int .u8 e.kd)).setCell ⟨G + 1, 2, none⟩ (.int .i64 e.sa)).setCell ⟨G + 1, 3, none⟩ (.int .i64 e.sc)) := by
  refine ⟨?_, ?_, ?_⟩
  · rw [heap_setCell_other _ _ _ _ (by simp), heap_setCell_other _ _ _ _ (by simp), heap_setCell_other _ _ _ _ (by simp), heap_setCell_other _ _ _ _ (by simp)]
    exact h.1
  · rw [heap_setCell_same _ _ _ _ _ _ (heap_setCell_same _ _ _ _ _ _ (heap_setCell_same _ _ _ _ _ _ (heap_setCell_same _ _ _ _ _ _ h.2.1)))]
    rfl
  · exact (((h.2.2.setCell (fun _ => .inr rfl) _).setCell (fun _ => .inr rfl) _).setCell (fun _ => .inr rfl) _).setCell (fun _ => .inr rfl) _

theorem DiskAt.kp {S : Nat → Prop} {a b : World} {dv : Value} {D : List Int} (h : DiskAt a dv D) (hk : Kp S a b) (hs : ∀ db, dv.ownBlock = some db → ¬ S db) : DiskAt b dv D := by
  rcases h with h | ⟨db, rfl, hdb⟩
  · exact .inl h
  · exact .inr ⟨db, rfl, hk.row hdb (hs db rfl)⟩

theorem RLPost.bad2 {num fst lst number : Int} {lv : Value} {n : Nat} {xs : List Value} {nb : Nat} {w : World} {acc : List (Int × Int)} {v : Value} {wr w' : World}
    (L : LM num fst lst number lv n xs nb w acc v wr) (hk : Kp (fun k => k = w.heap.size + 1) wr w') {c : List (Int × Int) × Bool} (hc : c = (acc, false)) (T : TypeId) (p : Addr) :
    RLPost w nb lv n xs number c (.returned (.tuple #[.slice none 0 0, .iface T (.pointer (some p))])) w' := by
  subst hc
  exact ⟨_, _, rfl, fun h => by simp at h, fun _ => ⟨rfl, T, p, rfl⟩, hk.row L.cnt (by have := L.nblt; omega), L.kp.trans hk (fun i hi hh => by have hh' : i = w.heap.size + 1 := hh; omega)⟩

theorem info32 : (Tryf.prog.info? 32).map (fun i => (i.zero, i.size, i.bytes)) = some (some (.agg #[.int .i64 0, .int .i64 0, .int .i64 0]), 3, 24) := by kernel_rfl
theorem bcell {W w1 : World} (hb : Below W.heap.size W w1) : (∀ b o, b < W.heap.size → w1.cell? ⟨b, o, none⟩ = W.cell? ⟨b, o, none⟩) ∧ (∀ b o, b < W.heap.size → w1.frozen? ⟨b, o, none⟩ = W.frozen? ⟨b, o, none⟩) :=
  ⟨fun b o h => hb.cell (p := ⟨b, o, none⟩) h, fun b o h => hb.frozen (p := ⟨b, o, none⟩) h⟩

set_option maxRecDepth 100000 in
set_option maxHeartbeats 8000000 in
theorem readLogical_any (rb nb : Nat) (dv : Value) (D : List Int) (ss num fst lst number : Int) (lv : Value) (n : Nat) (xs : List Value) (pe pu : Addr) (su : ByteArray) (w : World)
    (hr : w.cell? ⟨rb, 0, none⟩ = some dv) (hd : DiskAt w dv D)
    (ce : w.cell? ⟨0, 0, none⟩ = some (.iface 63 (.pointer (some pe)))) (cu : w.cell? ⟨1, 0, none⟩ = some (.iface 63 (.pointer (some pu)))) (cs : w.cell? pu = some (.string su))
    (hn : w.heap[nb]? = some (.cells #[.int .i64 number] 3 (0, 0))) (hl : w.ownsRow 0 32 3 lv n xs)
    (s0 : ¬ RLS nb lv 0) (s1 : ¬ RLS nb lv 1) (sp : ¬ RLS nb lv pu.block) (sr : ¬ RLS nb lv rb) (sd : ∀ db, dv.ownBlock = some db → ¬ RLS nb lv db) (snl : lv.ownBlock ≠ some nb)
    (hD : D.length ≤ 524288) (h1 : 512 ≤ ss) (h2 : ss ≤ 65536) (h3 : 0 ≤ fst) (h4 : fst ≤ lst) (h5 : lst ≤ 1099511627776) (h6 : -1073741824 ≤ number) (h7 : number ≤ 1073741824) (h8 : n ≤ 16384) :
    Calls Tryf.prog 6 #[.iface 35 (.pointer (some ⟨rb, 0, none⟩)), .int .i64 ss, .agg #[.int .i64 num, .int .i64 fst, .int .i64 lst], .pointer (some ⟨nb, 0, none⟩), lv] w
      (RLPost w nb lv n xs number (chain D ss fst lst 256 fst)) := by
  have hw0 : 0 < w.heap.size := World.block_lt_of_cell? _ _ ce
  have hw1 : 1 < w.heap.size := World.block_lt_of_cell? _ _ cu
  have hwp : pu.block < w.heap.size := World.block_lt_of_cell? _ _ cs
  have HR := hide hr
  have HDI := hide hd
  have HE := hide ce
  have HU := hide cu
  have HC := hide cs
  have HLM := hide (LM.start (num := num) (fst := fst) (lst := lst) (bytesV (List.replicate 512 0)) (by simp [bytesV]) hn hl snl)
  have HS := hide (And.intro s0 (And.intro s1 (And.intro sp (And.intro sr sd))))
  clear hr hd ce cu cs hn hl s0 s1 sp sr sd snl
  have hmk := mk512
  generalize bytesV (List.replicate 512 0) = Z at hmk HLM
  go_enter Tryf.func6, Tryf.ntmps6
  go_wp2
  clear hmk
  go_loopw [25, 13, 4] (fun ti ta tv wr => ∃ (i : Nat) (at_ : Int) (acc : List (Int × Int)), ti = .int .i64 i ∧ ta = .int .i64 at_ ∧ LC D ss fst lst i at_ acc ∧ LM num fst lst number lv n xs nb w acc tv wr) (fun ti _ _ _ => 256 - (intOf ti).toNat)
  case atStart => exact ⟨0, fst, [], rfl, rfl, ⟨by simp, by simp, by omega, h3, h4⟩, HLM.out⟩
  case round =>
    clear HLM
    obtain ⟨i, at_, acc, rfl, rfl, hC, hM⟩ := hrel
    have hi2 := hC.i2
    have ha0 := hC.a0
    have ha1 := hC.a1
    have hai := hC.ai
    have hwz : w.heap.size + 1 < wr.heap.size := by obtain ⟨cur, _, hrow⟩ := hM.rec512; exact (Array.getElem?_eq_some_iff.1 hrow).1
    have b0 : wr.cell? ⟨w.heap.size, 0, none⟩ = some (.int .i64 num) := (cell_of_row wr _ 0 _ _ _ hM.box).trans rfl
    have b1 : wr.cell? ⟨w.heap.size, 1, none⟩ = some (.int .i64 fst) := (cell_of_row wr _ 1 _ _ _ hM.box).trans rfl
    have b2 : wr.cell? ⟨w.heap.size, 2, none⟩ = some (.int .i64 lst) := (cell_of_row wr _ 2 _ _ _ hM.box).trans rfl
    by_cases hi : i < 256
    · obtain ⟨off, hoff⟩ : ∃ off : Nat, at_ * ss = off := ⟨(at_ * ss).toNat, by have : 0 ≤ at_ * ss := Int.mul_nonneg ha0 (by omega); omega⟩
      have hoff2 : off ≤ 72057594037927936 := by
        have : at_ * ss ≤ 1099511627776 * 65536 := Int.mul_le_mul (by omega) h2 (by omega) (by omega)
        omega
      have hoffn : (at_ * ss).toNat = off := by omega
      have HON := hide hoffn
      have HCC := hide hC
      have HMM := hide hM
      clear hC hM hoffn
      by_cases hfar : D.length < off + 512
      · go_wp2_with (go_at_call 8; refine (readFull_fail rb (w.heap.size + 1) dv D off pe pu su HMM.out.rec512.choose _ ?q1 ?q2 ?q3 ?q4 ?q5 ?q6 ?q7 ?q8 ?q9 ?q10 ?q11 ?q12 ?q13).mono ?_)
        case q1 => exact HMM.out.kp.cell HR.out HS.out.2.2.2.1
        case q2 => exact HMM.out.kp.cell HE.out HS.out.1
        case q3 => exact HMM.out.kp.cell HU.out HS.out.2.1
        case q4 => exact HMM.out.kp.cell HC.out HS.out.2.2.1
        case q5 => omega
        case q6 => omega
        case q7 => omega
        case q8 => exact HDI.out.kp HMM.out.kp HS.out.2.2.2.2
        case q9 => exact HMM.out.rec512.choose_spec.2
        case q10 => exact HMM.out.rec512.choose_spec.1
        case q11 => exact hfar
        case q12 => omega
        case q13 => omega
        rintro e w2 ⟨⟨N, rfl⟩, hk⟩
        have HK := hide hk
        clear hk
        go_wp2
        go_ret2
        exact RLPost.bad2 HMM.out HK.out (HCC.out.end_ (by rw [show 256 - i = 255 - i + 1 from by omega]; exact chain_far D ss fst lst _ at_ (by rw [HON.out]; exact hfar))) _ _
      · obtain ⟨db, hdv, hdb⟩ : ∃ db, dv = .slice (some ⟨db, 0, none⟩) D.length D.length ∧ wr.heap[db]? = some (.cells (bytesV D).toArray 5 (0, 0)) := by
          rcases HDI.out.kp HMM.out.kp HS.out.2.2.2.2 with ⟨_, e⟩ | h
          · rw [e] at hfar; simp at hfar
          · exact h
        have HDV := hide hdv
        have HDB := hide hdb
        clear hdv hdb
        obtain ⟨R, hRe⟩ : ∃ R, R = recAt D off := ⟨_, rfl⟩
        have hRl : R.length = 512 := by rw [hRe]; exact recAt_length D off (by omega)
        have HRE := hide hRe
        clear hRe
        go_wp2_with (go_at_call 8; refine (readFull_near rb (w.heap.size + 1) db D D.length off HMM.out.rec512.choose _ ?q1 ?q2 ?q3 ?q4 ?q5 ?q6 ?q7).mono ?_)
        case q1 => rw [← HDV.out]; exact HMM.out.kp.cell HR.out HS.out.2.2.2.1
        case q2 => exact HDB.out
        case q3 => exact HMM.out.rec512.choose_spec.2
        case q4 => exact HMM.out.rec512.choose_spec.1
        case q5 => rfl
        case q6 => omega
        case q7 => omega
        rintro e w2 ⟨rfl, hrow, hk⟩
        have hrow' : w2.heap[w.heap.size + 1]? = some (.cells (bytesV R).toArray 5 (0, 0)) := by rw [HRE.out]; exact hrow
        have HM2 := hide (HMM.out.kept hk (bytesV R) (by simp [bytesV, hRl]) hrow')
        have HROW := hide hrow'
        have hz2 := hk.size
        have HK2 := hide hk
        clear hrow hk hrow' HDV HDB
        by_cases hsg : signedB R = true
        · go_wp2_with (first | (go_at_call 9; refine (signed_any _ R _ HROW.out hRl).mono ?_; rintro e w' ⟨rfl, rfl⟩) | (go_at_call 10; refine (recordEntries_any _ R _ ?q1 hRl).mono ?_))
          case q1 => exact ((Below.heap_alloc _ _ _ (by simp; omega)).trans (Below.heap_alloc _ _ _ (by omega))).trans HROW.out
          rintro e w4 ⟨rfl, hb4⟩
          have hz4 : w'.heap.size + 1 < w4.heap.size := by have := hb4.size; simp at this; omega
          have hg4 : w4.heap[w'.heap.size]? = some (.cells (entA (picks R 0).1) 43 (0, 0)) := (hb4.block _ (by simp; omega)).trans (heap_alloc2_old w' _ _)
          have hl4 : w4.heap[w'.heap.size + 1]? = some (.cells (entA (picks R 0).2) 43 (0, 0)) := (hb4.block _ (by simp)).trans (heap_alloc2_new w' _ _)
          have HG4 := hide hg4
          have HL4 := hide hl4
          have HK4 : Hid (Kp (fun _ => False) w' w4) := (((Kp.refl _ w').alloc _).alloc _).trans (Kp.of_below hb4) (fun _ _ h => h)
          clear hg4 hl4 hb4
          obtain ⟨wo, hwo⟩ : ∃ wo : World, wo = wr := ⟨_, rfl⟩
          subst hwo
          go_wp2
          go_loopw [42] (fun t wi => ∃ k : Nat, k ≤ 4 ∧ t = .int .i64 k ∧ IM w'.heap.size (picks R k) w4 wi) (fun t _ => 4 - (intOf t).toNat)
          case atStart => exact ⟨0, by omega, rfl, HG4.out, HL4.out, Kp.refl _ _⟩
          case round =>
            obtain ⟨k, hk, rfl, hgr, hlr, hkr⟩ := hrel
            have hzr : w'.heap.size + 1 < wr.heap.size := (Array.getElem?_eq_some_iff.1 hlr).1
            have hzr0 : w'.heap.size < wr.heap.size := by omega
            have z1 : w'.heap.size + 1 < wr.heap.size + 1 := by omega
            have z2 : w'.heap.size + 1 < wr.heap.size + 1 + 1 := by omega
            have z3 : w'.heap.size + 1 < wr.heap.size + 1 + 1 + 1 := by omega
            have z4 : w'.heap.size + 1 < wr.heap.size + 1 + 1 + 1 + 1 := by omega
            have z5 : w'.heap.size + 1 < wr.heap.size + 1 + 1 + 1 + 1 + 1 := by omega
            have y1 : w'.heap.size < wr.heap.size + 1 := by omega
            have y2 : w'.heap.size < wr.heap.size + 1 + 1 := by omega
            have y3 : w'.heap.size < wr.heap.size + 1 + 1 + 1 := by omega
            have y4 : w'.heap.size < wr.heap.size + 1 + 1 + 1 + 1 := by omega
            have y5 : w'.heap.size < wr.heap.size + 1 + 1 + 1 + 1 + 1 := by omega
            by_cases hk4 : k < 4
            · have hix := index_ent R k hk4
              have HPS := hide (picks_succ R k)
              generalize entOf R k = ek at hix HPS
              generalize picks R k = pk at hgr hlr HPS
              obtain ⟨⟨gst, gkd, gsa, gsc⟩, ⟨kst, kkd, ksa, ksc⟩⟩ := pk
              obtain ⟨st, kd, sa, sc⟩ := ek
              simp only [entA] at hix
              have g0 : wr.cell? ⟨w'.heap.size, 0, none⟩ = some (.int .u8 gst) := (cell_of_row wr _ 0 _ _ _ hgr).trans rfl
              have g1 : wr.cell? ⟨w'.heap.size, 1, none⟩ = some (.int .u8 gkd) := (cell_of_row wr _ 1 _ _ _ hgr).trans rfl
              have g2 : wr.cell? ⟨w'.heap.size, 2, none⟩ = some (.int .i64 gsa) := (cell_of_row wr _ 2 _ _ _ hgr).trans rfl
              have g3 : wr.cell? ⟨w'.heap.size, 3, none⟩ = some (.int .i64 gsc) := (cell_of_row wr _ 3 _ _ _ hgr).trans rfl
              have gf : ∀ j, wr.frozen? ⟨w'.heap.size, j, none⟩ = false := fun j => frozen_of_row wr _ j _ _ hgr
              have l0 : wr.cell? ⟨w'.heap.size + 1, 0, none⟩ = some (.int .u8 kst) := (cell_of_row wr _ 0 _ _ _ hlr).trans rfl
              have l1 : wr.cell? ⟨w'.heap.size + 1, 1, none⟩ = some (.int .u8 kkd) := (cell_of_row wr _ 1 _ _ _ hlr).trans rfl
              have l2 : wr.cell? ⟨w'.heap.size + 1, 2, none⟩ = some (.int .i64 ksa) := (cell_of_row wr _ 2 _ _ _ hlr).trans rfl
              have l3 : wr.cell? ⟨w'.heap.size + 1, 3, none⟩ = some (.int .i64 ksc) := (cell_of_row wr _ 3 _ _ _ hlr).trans rfl
              have lf : ∀ j, wr.frozen? ⟨w'.heap.size + 1, j, none⟩ = false := fun j => frozen_of_row wr _ j _ _ hlr
              have HI : Hid (IM w'.heap.size (⟨gst, gkd, gsa, gsc⟩, ⟨kst, kkd, ksa, ksc⟩) w4 wr) := ⟨hgr, hlr, hkr⟩
              clear hgr hlr hkr
              by_cases hu : usedB kd sc = true
              · by_cases hx : extB kd = true
                · by_cases hl : usedB kkd ksc = true
                  · go_wp2_with (first | (go_at_call 11; refine (used_any _ _ _ _ _).mono ?_; rintro e w' ⟨rfl, rfl⟩) | (go_at_call 12; refine (extended_any _ _ _ _ _).mono ?_; rintro e w' ⟨rfl, rfl⟩))
                    go_roundw
                    case rel => exact ⟨k + 1, by omega, by go_num, by rw [HPS.out, show pick (⟨gst, gkd, gsa, gsc⟩, ⟨kst, kkd, ksa, ksc⟩) ⟨st, kd, sa, sc⟩ = _ from by simp [pick, Ent.used, Ent.ext, hu, hx, hl]; rfl]; exact (HI.out.keep (by repeat (first | exact Kp.refl _ _ | apply Kp.alloc)))⟩
                    case measure => simp [intOf]; omega
                  · have hl' : usedB kkd ksc = false := by simpa using hl
                    clear hl
                    go_wp2_with (first | (go_at_call 11; refine (used_any _ _ _ _ _).mono ?_; rintro e w' ⟨rfl, rfl⟩) | (go_at_call 12; refine (extended_any _ _ _ _ _).mono ?_; rintro e w' ⟨rfl, rfl⟩))
                    go_roundw
                    case rel => exact ⟨k + 1, by omega, by go_num, by rw [HPS.out, show pick (⟨gst, gkd, gsa, gsc⟩, ⟨kst, kkd, ksa, ksc⟩) ⟨st, kd, sa, sc⟩ = _ from by simp [pick, Ent.used, Ent.ext, hu, hx, hl']; rfl]; exact ((HI.out.set2 ⟨st, kd, sa, sc⟩).keep (by repeat (first | exact Kp.refl _ _ | apply Kp.alloc)))⟩
                    case measure => simp [intOf]; omega
                · have hx' : extB kd = false := by simpa using hx
                  clear hx
                  by_cases hl : usedB gkd gsc = true
                  · go_wp2_with (first | (go_at_call 11; refine (used_any _ _ _ _ _).mono ?_; rintro e w' ⟨rfl, rfl⟩) | (go_at_call 12; refine (extended_any _ _ _ _ _).mono ?_; rintro e w' ⟨rfl, rfl⟩))
                    go_roundw
                    case rel => exact ⟨k + 1, by omega, by go_num, by rw [HPS.out, show pick (⟨gst, gkd, gsa, gsc⟩, ⟨kst, kkd, ksa, ksc⟩) ⟨st, kd, sa, sc⟩ = _ from by simp [pick, Ent.used, Ent.ext, hu, hx', hl]; rfl]; exact (HI.out.keep (by repeat (first | exact Kp.refl _ _ | apply Kp.alloc)))⟩
                    case measure => simp [intOf]; omega
                  · have hl' : usedB gkd gsc = false := by simpa using hl
                    clear hl
                    go_wp2_with (first | (go_at_call 11; refine (used_any _ _ _ _ _).mono ?_; rintro e w' ⟨rfl, rfl⟩) | (go_at_call 12; refine (extended_any _ _ _ _ _).mono ?_; rintro e w' ⟨rfl, rfl⟩))
                    go_roundw
                    case rel => exact ⟨k + 1, by omega, by go_num, by rw [HPS.out, show pick (⟨gst, gkd, gsa, gsc⟩, ⟨kst, kkd, ksa, ksc⟩) ⟨st, kd, sa, sc⟩ = _ from by simp [pick, Ent.used, Ent.ext, hu, hx', hl']; rfl]; exact ((HI.out.set1 ⟨st, kd, sa, sc⟩).keep (by repeat (first | exact Kp.refl _ _ | apply Kp.alloc)))⟩
                    case measure => simp [intOf]; omega
              · have hu' : usedB kd sc = false := by simpa using hu
                clear hu
                go_wp2_with (first | (go_at_call 11; refine (used_any _ _ _ _ _).mono ?_; rintro e w' ⟨rfl, rfl⟩) | (go_at_call 12; refine (extended_any _ _ _ _ _).mono ?_; rintro e w' ⟨rfl, rfl⟩))
                go_roundw
                case rel => exact ⟨k + 1, by omega, by go_num, by rw [HPS.out, show pick (⟨gst, gkd, gsa, gsc⟩, ⟨kst, kkd, ksa, ksc⟩) ⟨st, kd, sa, sc⟩ = _ from by simp [pick, Ent.used, hu']; rfl]; exact (HI.out.keep (by repeat (first | exact Kp.refl _ _ | apply Kp.alloc)))⟩
                case measure => simp [intOf]; omega
            · obtain rfl : k = 4 := by omega
              have hKo : Kp (fun _ => False) w' wr := HK4.out.trans hkr (fun i hi h => by have h' : i = w'.heap.size ∨ i = w'.heap.size + 1 := h; omega)
              clear hkr HK2 HK4 HG4 HL4 HROW b0 b1 b2 z1 z2 z3 z4 z5 y1 y2 y3 y4 y5
              have b2 : wr.cell? ⟨w.heap.size, 2, none⟩ = some (.int .i64 lst) := (cell_of_row wr _ 2 _ _ _ (HM2.out.more hKo).box).trans rfl
              have HKO := hide hKo
              have HGR := hide hgr
              have HLR := hide hlr
              clear hKo hgr hlr
              go_wp2
              go_quiet (fail)
              obtain ⟨w5, hw5⟩ : ∃ w5, wr.drewN nq = w5 := ⟨_, rfl⟩
              rw [hw5]
              have hgr : w5.heap[w'.heap.size]? = some (.cells (entA (picks R 4).1) 43 (0, 0)) := by rw [← hw5]; exact HGR.out
              have hlr : w5.heap[w'.heap.size + 1]? = some (.cells (entA (picks R 4).2) 43 (0, 0)) := by rw [← hw5]; exact HLR.out
              have hKo : Kp (fun _ => False) w' w5 := by rw [← hw5]; exact HKO.out.drewN nq
              have HM5 := hide (HM2.out.more hKo)
              have hz5 : w'.heap.size + 1 < w5.heap.size := (Array.getElem?_eq_some_iff.1 hlr).1
              clear hKo HM2 b2 hw5 HKO HGR HLR hzr hzr0
              obtain ⟨lk, hlk⟩ : ∃ e, lkOf R = e := ⟨_, rfl⟩
              obtain ⟨lg, hlg⟩ : ∃ e, lgOf R = e := ⟨_, rfl⟩
              rw [show (picks R 4).1 = lg from hlg] at hgr
              rw [show (picks R 4).2 = lk from hlk] at hlr
              have HLK := hide hlk
              have HLG := hide hlg
              clear hlk hlg
              obtain ⟨gst, gkd, gsa, gsc⟩ := lg
              obtain ⟨kst, kkd, ksa, ksc⟩ := lk
              have g0 : w5.cell? ⟨w'.heap.size, 0, none⟩ = some (.int .u8 gst) := (cell_of_row w5 _ 0 _ _ _ hgr).trans rfl
              have g1 : w5.cell? ⟨w'.heap.size, 1, none⟩ = some (.int .u8 gkd) := (cell_of_row w5 _ 1 _ _ _ hgr).trans rfl
              have g2 : w5.cell? ⟨w'.heap.size, 2, none⟩ = some (.int .i64 gsa) := (cell_of_row w5 _ 2 _ _ _ hgr).trans rfl
              have g3 : w5.cell? ⟨w'.heap.size, 3, none⟩ = some (.int .i64 gsc) := (cell_of_row w5 _ 3 _ _ _ hgr).trans rfl
              have l0 : w5.cell? ⟨w'.heap.size + 1, 0, none⟩ = some (.int .u8 kst) := (cell_of_row w5 _ 0 _ _ _ hlr).trans rfl
              have l1 : w5.cell? ⟨w'.heap.size + 1, 1, none⟩ = some (.int .u8 kkd) := (cell_of_row w5 _ 1 _ _ _ hlr).trans rfl
              have l2 : w5.cell? ⟨w'.heap.size + 1, 2, none⟩ = some (.int .i64 ksa) := (cell_of_row w5 _ 2 _ _ _ hlr).trans rfl
              have l3 : w5.cell? ⟨w'.heap.size + 1, 3, none⟩ = some (.int .i64 ksc) := (cell_of_row w5 _ 3 _ _ _ hlr).trans rfl
              have b0 : w5.cell? ⟨w.heap.size, 0, none⟩ = some (.int .i64 num) := (cell_of_row w5 _ 0 _ _ _ HM5.out.box).trans rfl
              have b1 : w5.cell? ⟨w.heap.size, 1, none⟩ = some (.int .i64 fst) := (cell_of_row w5 _ 1 _ _ _ HM5.out.box).trans rfl
              have b2 : w5.cell? ⟨w.heap.size, 2, none⟩ = some (.int .i64 lst) := (cell_of_row w5 _ 2 _ _ _ HM5.out.box).trans rfl
              have hnbl := HM5.out.nblt
              obtain ⟨m, hm⟩ : ∃ m : Int, number + acc.length = m := ⟨_, rfl⟩
              have c0 : w5.cell? ⟨nb, 0, none⟩ = some (.int .i64 m) := by rw [← hm]; exact (cell_of_row w5 _ 0 _ _ _ HM5.out.cnt).trans rfl
              have cf : w5.frozen? ⟨nb, 0, none⟩ = false := frozen_of_row w5 _ 0 _ _ HM5.out.cnt
              have hm1 : -1073741824 ≤ m := by omega
              have hm2 : m ≤ 1073742080 := by omega
              have HMN := hide hm
              have w0z : w.heap.size < w5.heap.size := by omega
              have nbz : nb < w5.heap.size := by omega
              have kz : w'.heap.size < w5.heap.size := by omega
              have HE5 := hide (show 256 - i = 255 - i + 1 from by omega)
              clear hgr hlr hm
              have HNF : Hid (¬ D.length < (at_ * ss).toNat + 512) := by rw [HON.out]; exact hfar
              have HSG := hide (show ¬ signedB (recAt D (at_ * ss).toNat) = false by rw [HON.out, ← HRE.out, hsg]; decide)
              have HRR : Hid (recAt D (at_ * ss).toNat = R) := by rw [HON.out]; exact HRE.out.symm
              by_cases hlu : usedB kkd ksc = true
              · have HUK : Hid ((lkOf R).used = true) := by rw [HLK.out]; exact hlu
                obtain ⟨nx, hnx⟩ : ∃ nx, wrap64 (fst + ksa) = nx := ⟨_, rfl⟩
                have HNX := hide (show wrap64 (fst + (lkOf R).sa) = nx by rw [HLK.out]; exact hnx)
                by_cases hbad : nx ≤ at_ ∨ lst < nx
                · have HCH := hide (HCC.out.end_ (by rw [HE5.out]; exact chain_badlink D ss fst lst _ at_ HNF.out HSG.out R HRR.out HUK.out (by rw [HNX.out]; exact hbad)))
                  rcases Int.lt_or_le at_ nx with hna | hna
                  all_goals
                    go_wp2_with (first | (go_at_call 11; refine (used_any _ _ _ _ _).mono ?_; rintro e w' ⟨rfl, rfl⟩) | (go_at_call 13; refine (untr5 _ 2 2 3 (.inl ⟨rfl, rfl, rfl⟩) at_ nx num fst lst _ _ ?q0 ?q1 ?q2 ?q3 ?q4 ?q5).mono ?_))
                    case q0 => kernel_rfl
                    case q1 => go_simp
                    case q2 => go_simp
                    case q3 => go_simp
                    case q4 => go_simp
                    case q5 => go_simp
                    rintro e w6 ⟨⟨N, rfl⟩, hb⟩
                    have HB := hide hb
                    clear hb
                    go_wp2
                    go_ret2
                    exact RLPost.bad (HM5.out.more ((((Kp.refl _ w5).alloc _).alloc _).trans (Kp.of_below HB.out) (fun _ _ h => h))) HCH.out _ _
                · have hna : at_ < nx := by omega
                  have hnl : nx ≤ lst := by omega
                  have HNB := hide (show ¬ (wrap64 (fst + (lkOf R).sa) ≤ at_ ∨ lst < wrap64 (fst + (lkOf R).sa)) by rw [HNX.out]; exact hbad)
                  clear hbad
                  by_cases hgu : usedB gkd gsc = true
                  · have HUG : Hid ((lgOf R).used = true) := by rw [HLG.out]; exact hgu
                    obtain ⟨fs, hfs⟩ : ∃ x, wrap64 (at_ + gsa) = x := ⟨_, rfl⟩
                    obtain ⟨ls, hls⟩ : ∃ x, wrap64 (wrap64 (fs + gsc) - 1) = x := ⟨_, rfl⟩
                    have HFS := hide (show spFirst (lgOf R) at_ = fs by rw [HLG.out]; exact hfs)
                    have HLS := hide (show spLast (lgOf R) at_ = ls by rw [HLG.out]; show wrap64 (wrap64 (wrap64 (at_ + gsa) + gsc) - 1) = ls; rw [hfs]; exact hls)
                    go_wp2_with (first | (go_at_call 11; refine (used_any _ _ _ _ _).mono ?_; rintro e w' ⟨rfl, rfl⟩))
                    have hk7 : Kp (fun _ => False) w5 ((w5.alloc (.cells #[.int .u8 kst, .int .u8 kkd, .int .i64 ksa, .int .i64 ksc] 43)).alloc (.cells #[.int .u8 gst, .int .u8 gkd, .int .i64 gsa, .int .i64 gsc] 43)) := ((Kp.refl _ w5).alloc _).alloc _
                    generalize (w5.alloc (.cells #[.int .u8 kst, .int .u8 kkd, .int .i64 ksa, .int .i64 ksc] 43)).alloc (.cells #[.int .u8 gst, .int .u8 gkd, .int .i64 gsa, .int .i64 gsc] 43) = w7 at hk7 ⊢
                    replace g0 := hk7.cell g0 (fun f => f)
                    replace g1 := hk7.cell g1 (fun f => f)
                    replace g2 := hk7.cell g2 (fun f => f)
                    replace g3 := hk7.cell g3 (fun f => f)
                    replace c0 := hk7.cell c0 (fun f => f)
                    have kz7 : w'.heap.size < w7.heap.size := Nat.lt_of_lt_of_le kz hk7.size
                    have nz7 : nb < w7.heap.size := Nat.lt_of_lt_of_le nbz hk7.size
                    have HM7 := hide (HM5.out.more hk7)
                    clear hk7 HM5 l0 l1 l2 l3 b0 b1 b2 cf
                    go_cut [21] (fun s wc => Cut27 w7 m fs ls s wc)
                    case first =>
                      go_region_held3 (fun wx => wx.cell? ⟨w'.heap.size, 0, none⟩ = some (.int .u8 gst) ∧ wx.cell? ⟨w'.heap.size, 1, none⟩ = some (.int .u8 gkd) ∧ wx.cell? ⟨w'.heap.size, 2, none⟩ = some (.int .i64 gsa) ∧ wx.cell? ⟨w'.heap.size, 3, none⟩ = some (.int .i64 gsc) ∧ wx.cell? ⟨nb, 0, none⟩ = some (.int .i64 m))
                        (first | exact (⟨g0, g1, g2, g3, c0⟩ : K27 w'.heap.size nb gst gkd gsa gsc m w7) | exact K27.alloc _ (by assumption) | exact K27.below (by assumption) (by assumption) | exact K27.alloc _ (K27.below hb6 (K27.drew (⟨g0, g1, g2, g3, c0⟩ : K27 w'.heap.size nb gst gkd gsa gsc m w7))) | exact K27.far _ _ _ (by omega) (by omega) (K27.far _ _ _ (by omega) (by omega) (K27.far _ _ _ (by omega) (by omega) (by assumption))))
                        (first | (go_at_call 14; refine (span_any _ _ _ _ _ _ _).mono ?_; rintro e w6 ⟨rfl, hb6⟩; obtain ⟨hc6, hf6⟩ := bcell hb6))
                      all_goals
                        clear hc6 hf6
                        have HB6 := hide hb6
                        clear hb6
                        go_wp2
                        go_meet
                        case rel => first | exact Cut27.late HB6.out | exact Cut27.early HB6.out
                    case rest =>
                      obtain ⟨X, rfl, hX7, hXr, hXk⟩ := hcut
                      have HM8 := hide (HM7.out.more hXk)
                      have x0 : wc.cell? ⟨X, 0, none⟩ = some (.int .i64 m) := (cell_of_row wc _ 0 _ _ _ hXr).trans rfl
                      have x1 : wc.cell? ⟨X, 1, none⟩ = some (.int .i64 fs) := (cell_of_row wc _ 1 _ _ _ hXr).trans rfl
                      have x2 : wc.cell? ⟨X, 2, none⟩ = some (.int .i64 ls) := (cell_of_row wc _ 2 _ _ _ hXr).trans rfl
                      have xz : X < wc.heap.size := (Array.getElem?_eq_some_iff.1 hXr).1
                      have nz8 : nb < wc.heap.size := Nat.lt_of_lt_of_le nz7 hXk.size
                      replace c0 := hXk.cell c0 (fun f => f)
                      clear hXr hXk HM7 g0 g1 g2 g3 hfs hls
                      by_cases hbd : fs ≤ at_ ∨ (nx - 1) < ls
                      · have HCH := hide (HCC.out.end_ (by rw [HE5.out]; exact chain_link_bad D ss fst lst _ at_ HNF.out HSG.out R HRR.out HUK.out HNB.out HUG.out (by rw [HFS.out, HLS.out, HNX.out]; exact hbd)))
                        rcases Int.lt_or_le at_ fs with hna' | hna'
                        all_goals
                          go_wp2_with (go_at_call 13; refine (untr5 _ 3 2 2 (.inr ⟨rfl, rfl, rfl⟩) m fs ls (at_ + 1) (nx - 1) _ _ ?q0 ?q1 ?q2 ?q3 ?q4 ?q5).mono ?_)
                          case q0 => kernel_rfl
                          case q1 => go_simp
                          case q2 => go_simp
                          case q3 => go_simp
                          case q4 => go_simp
                          case q5 => go_simp
                          rintro e w9 ⟨⟨N, rfl⟩, hb⟩
                          have HB := hide hb
                          clear hb
                          go_wp2
                          go_ret2
                          exact RLPost.bad (HM8.out.more (((Kp.refl _ wc).alloc _).trans (Kp.of_below HB.out) (fun _ _ h => h))) HCH.out _ _
                      · have hf1 : at_ < fs := by omega
                        have hf2 : ls ≤ (nx - 1) := by omega
                        have HGD := hide (chain_link_span D ss fst lst (255 - i) at_ HNF.out HSG.out R HRR.out HUK.out HNB.out HUG.out (by rw [HFS.out, HLS.out, HNX.out]; exact hbd))
                        clear hbd
                        obtain ⟨ti, hi0, hti⟩ := Option.map_eq_some_iff.1 info32
                        simp only [Prod.mk.injEq] at hti
                        obtain ⟨hz0, hz1, hz2⟩ := hti
                        have HTI := hide (And.intro hi0 (And.intro hz0 (And.intro hz1 hz2)))
                        clear hi0 hz0 hz1 hz2
                        go_wp2_with (first | (at_builtin; refine wpList_append_lies _ rfl (.tmp 138) (.tmp 140) 30 rfl 0 32 ti (.agg #[.int .i64 0, .int .i64 0, .int .i64 0]) 3 24 Tryf.underlying30 HTI.out.1 HTI.out.2.1 HTI.out.2.2.1 HTI.out.2.2.2 rfl (by decide) u4 (n + acc.length) (xs ++ spanV number acc) rfl (HM8.out.own.alloc _) ⟨wc.heap.size, 0, none⟩ 1 1 [.int .i64 m, .int .i64 fs, .int .i64 ls] rfl rfl (World.news_of_block (heap_alloc_new wc _)) ?one (by decide) ?h63 ?hby (Nat.zero_le _) _ rfl ?_))
                        case one => intro u hu; simp at hu; rcases hu with rfl | rfl | rfl <;> rfl
                        case h63 => unfold maxLen; omega
                        case hby => omega
                        intro g cap w8 hown hgr hat hlt
                        have HM9 := hide (HM8.out.more ((Kp.refl _ wc).alloc (.cells #[.int .i64 m, .int .i64 fs, .int .i64 ls] 32)))
                        have nz9 : nb < wc.heap.size + 1 := by omega
                        have hne : some nb ≠ u4.ownBlock := fun e => (HM8.out.vblk nb e.symm).2.2 rfl
                        have c8 : w8.cell? ⟨nb, 0, none⟩ = some (.int .i64 m) := hgr.cell (a := ⟨nb, 0, none⟩) ((World.cell?_alloc_lt _ _ _ nz8).trans c0) hne
                        have f8 : w8.frozen? ⟨nb, 0, none⟩ = false := (hgr.frozen_far ⟨nb, 0, none⟩ (by simp; omega) hne).trans (frozen_of_row _ _ 0 _ _ HM9.out.cnt)
                        have HMA := hide (LM.app HM9.out (fs, ls) (by rw [HMN.out, List.append_assoc]; exact hown) hgr (by simpa using hat))
                        rw [HMN.out] at HMA
                        clear hown hgr hat hlt c0 x0 x1 x2
                        go_wp2
                        go_roundw
                        case rel => exact ⟨i + 1, nx, acc ++ [(fs, ls)], by go_num, rfl, HCC.out.next_span hi hna hnl (by rw [HGD.out, HFS.out, HLS.out, HNX.out]), HMA.out⟩
                        case measure => simp [intOf]; omega
                  · have hgu' : usedB gkd gsc = false := by simpa using hgu
                    have HUG : Hid (¬ (lgOf R).used = true) := by rw [HLG.out]; exact hgu
                    clear hgu
                    go_wp2_with (first | (go_at_call 11; refine (used_any _ _ _ _ _).mono ?_; rintro e w' ⟨rfl, rfl⟩))
                    go_roundw
                    case rel => exact ⟨i + 1, nx, acc, by go_num, rfl, HCC.out.next hi hna hnl (by rw [chain_link_none D ss fst lst _ at_ HNF.out HSG.out R HRR.out HUK.out HNB.out HUG.out, HNX.out]), HM5.out.more (by repeat (first | exact Kp.refl _ _ | apply Kp.alloc))⟩
                    case measure => simp [intOf]; omega
              · have hlu' : usedB kkd ksc = false := by simpa using hlu
                have HUK : Hid (¬ (lkOf R).used = true) := by rw [HLK.out]; exact hlu
                clear hlu
                by_cases hgu : usedB gkd gsc = true
                · have HUG : Hid ((lgOf R).used = true) := by rw [HLG.out]; exact hgu
                  obtain ⟨fs, hfs⟩ : ∃ x, wrap64 (at_ + gsa) = x := ⟨_, rfl⟩
                  obtain ⟨ls, hls⟩ : ∃ x, wrap64 (wrap64 (fs + gsc) - 1) = x := ⟨_, rfl⟩
                  have HFS := hide (show spFirst (lgOf R) at_ = fs by rw [HLG.out]; exact hfs)
                  have HLS := hide (show spLast (lgOf R) at_ = ls by rw [HLG.out]; show wrap64 (wrap64 (wrap64 (at_ + gsa) + gsc) - 1) = ls; rw [hfs]; exact hls)
                  go_wp2_with (first | (go_at_call 11; refine (used_any _ _ _ _ _).mono ?_; rintro e w' ⟨rfl, rfl⟩))
                  have hk7 : Kp (fun _ => False) w5 ((w5.alloc (.cells #[.int .u8 kst, .int .u8 kkd, .int .i64 ksa, .int .i64 ksc] 43)).alloc (.cells #[.int .u8 gst, .int .u8 gkd, .int .i64 gsa, .int .i64 gsc] 43)) := ((Kp.refl _ w5).alloc _).alloc _
                  generalize (w5.alloc (.cells #[.int .u8 kst, .int .u8 kkd, .int .i64 ksa, .int .i64 ksc] 43)).alloc (.cells #[.int .u8 gst, .int .u8 gkd, .int .i64 gsa, .int .i64 gsc] 43) = w7 at hk7 ⊢
                  replace g0 := hk7.cell g0 (fun f => f)
                  replace g1 := hk7.cell g1 (fun f => f)
                  replace g2 := hk7.cell g2 (fun f => f)
                  replace g3 := hk7.cell g3 (fun f => f)
                  replace c0 := hk7.cell c0 (fun f => f)
                  have kz7 : w'.heap.size < w7.heap.size := Nat.lt_of_lt_of_le kz hk7.size
                  have nz7 : nb < w7.heap.size := Nat.lt_of_lt_of_le nbz hk7.size
                  have HM7 := hide (HM5.out.more hk7)
                  clear hk7 HM5 l0 l1 l2 l3 b0 b1 b2 cf
                  go_cut [21] (fun s wc => Cut27 w7 m fs ls s wc)
                  case first =>
                    go_region_held3 (fun wx => wx.cell? ⟨w'.heap.size, 0, none⟩ = some (.int .u8 gst) ∧ wx.cell? ⟨w'.heap.size, 1, none⟩ = some (.int .u8 gkd) ∧ wx.cell? ⟨w'.heap.size, 2, none⟩ = some (.int .i64 gsa) ∧ wx.cell? ⟨w'.heap.size, 3, none⟩ = some (.int .i64 gsc) ∧ wx.cell? ⟨nb, 0, none⟩ = some (.int .i64 m))
                      (first | exact (⟨g0, g1, g2, g3, c0⟩ : K27 w'.heap.size nb gst gkd gsa gsc m w7) | exact K27.alloc _ (by assumption) | exact K27.below (by assumption) (by assumption) | exact K27.alloc _ (K27.below hb6 (K27.drew (⟨g0, g1, g2, g3, c0⟩ : K27 w'.heap.size nb gst gkd gsa gsc m w7))) | exact K27.far _ _ _ (by omega) (by omega) (K27.far _ _ _ (by omega) (by omega) (K27.far _ _ _ (by omega) (by omega) (by assumption))))
                      (first | (go_at_call 14; refine (span_any _ _ _ _ _ _ _).mono ?_; rintro e w6 ⟨rfl, hb6⟩; obtain ⟨hc6, hf6⟩ := bcell hb6))
                    all_goals
                      clear hc6 hf6
                      have HB6 := hide hb6
                      clear hb6
                      go_wp2
                      go_meet
                      case rel => first | exact Cut27.late HB6.out | exact Cut27.early HB6.out
                  case rest =>
                    obtain ⟨X, rfl, hX7, hXr, hXk⟩ := hcut
                    have HM8 := hide (HM7.out.more hXk)
                    have x0 : wc.cell? ⟨X, 0, none⟩ = some (.int .i64 m) := (cell_of_row wc _ 0 _ _ _ hXr).trans rfl
                    have x1 : wc.cell? ⟨X, 1, none⟩ = some (.int .i64 fs) := (cell_of_row wc _ 1 _ _ _ hXr).trans rfl
                    have x2 : wc.cell? ⟨X, 2, none⟩ = some (.int .i64 ls) := (cell_of_row wc _ 2 _ _ _ hXr).trans rfl
                    have xz : X < wc.heap.size := (Array.getElem?_eq_some_iff.1 hXr).1
                    have nz8 : nb < wc.heap.size := Nat.lt_of_lt_of_le nz7 hXk.size
                    replace c0 := hXk.cell c0 (fun f => f)
                    clear hXr hXk HM7 g0 g1 g2 g3 hfs hls
                    by_cases hbd : fs ≤ at_ ∨ lst < ls
                    · have HCH := hide (HCC.out.end_ (by rw [HE5.out]; exact chain_end_bad D ss fst lst _ at_ HNF.out HSG.out R HRR.out HUK.out HUG.out (by rw [HFS.out, HLS.out]; exact hbd)))
                      rcases Int.lt_or_le at_ fs with hna' | hna'
                      all_goals
                        go_wp2_with (go_at_call 13; refine (untr5 _ 3 2 2 (.inr ⟨rfl, rfl, rfl⟩) m fs ls (at_ + 1) lst _ _ ?q0 ?q1 ?q2 ?q3 ?q4 ?q5).mono ?_)
                        case q0 => kernel_rfl
                        case q1 => go_simp
                        case q2 => go_simp
                        case q3 => go_simp
                        case q4 => go_simp
                        case q5 => go_simp
                        rintro e w9 ⟨⟨N, rfl⟩, hb⟩
                        have HB := hide hb
                        clear hb
                        go_wp2
                        go_ret2
                        exact RLPost.bad (HM8.out.more (((Kp.refl _ wc).alloc _).trans (Kp.of_below HB.out) (fun _ _ h => h))) HCH.out _ _
                    · have hf1 : at_ < fs := by omega
                      have hf2 : ls ≤ lst := by omega
                      have HGD := hide (chain_end_span D ss fst lst (255 - i) at_ HNF.out HSG.out R HRR.out HUK.out HUG.out (by rw [HFS.out, HLS.out]; exact hbd))
                      clear hbd
                      obtain ⟨ti, hi0, hti⟩ := Option.map_eq_some_iff.1 info32
                      simp only [Prod.mk.injEq] at hti
                      obtain ⟨hz0, hz1, hz2⟩ := hti
                      have HTI := hide (And.intro hi0 (And.intro hz0 (And.intro hz1 hz2)))
                      clear hi0 hz0 hz1 hz2
                      go_wp2_with (first | (at_builtin; refine wpList_append_lies _ rfl (.tmp 138) (.tmp 140) 30 rfl 0 32 ti (.agg #[.int .i64 0, .int .i64 0, .int .i64 0]) 3 24 Tryf.underlying30 HTI.out.1 HTI.out.2.1 HTI.out.2.2.1 HTI.out.2.2.2 rfl (by decide) u4 (n + acc.length) (xs ++ spanV number acc) rfl (HM8.out.own.alloc _) ⟨wc.heap.size, 0, none⟩ 1 1 [.int .i64 m, .int .i64 fs, .int .i64 ls] rfl rfl (World.news_of_block (heap_alloc_new wc _)) ?one (by decide) ?h63 ?hby (Nat.zero_le _) _ rfl ?_))
                      case one => intro u hu; simp at hu; rcases hu with rfl | rfl | rfl <;> rfl
                      case h63 => unfold maxLen; omega
                      case hby => omega
                      intro g cap w8 hown hgr hat hlt
                      have HM9 := hide (HM8.out.more ((Kp.refl _ wc).alloc (.cells #[.int .i64 m, .int .i64 fs, .int .i64 ls] 32)))
                      have nz9 : nb < wc.heap.size + 1 := by omega
                      have hne : some nb ≠ u4.ownBlock := fun e => (HM8.out.vblk nb e.symm).2.2 rfl
                      have c8 : w8.cell? ⟨nb, 0, none⟩ = some (.int .i64 m) := hgr.cell (a := ⟨nb, 0, none⟩) ((World.cell?_alloc_lt _ _ _ nz8).trans c0) hne
                      have f8 : w8.frozen? ⟨nb, 0, none⟩ = false := (hgr.frozen_far ⟨nb, 0, none⟩ (by simp; omega) hne).trans (frozen_of_row _ _ 0 _ _ HM9.out.cnt)
                      have HMA := hide (LM.app HM9.out (fs, ls) (by rw [HMN.out, List.append_assoc]; exact hown) hgr (by simpa using hat))
                      rw [HMN.out] at HMA
                      clear hown hgr hat hlt c0 x0 x1 x2
                      go_wp2
                      go_ret2
                      exact RLPost.good HMA.out (HCC.out.end_span (by rw [HE5.out, HGD.out, HFS.out, HLS.out]))
                · have hgu' : usedB gkd gsc = false := by simpa using hgu
                  have HUG : Hid (¬ (lgOf R).used = true) := by rw [HLG.out]; exact hgu
                  clear hgu
                  go_wp2_with (first | (go_at_call 11; refine (used_any _ _ _ _ _).mono ?_; rintro e w' ⟨rfl, rfl⟩))
                  go_ret2
                  exact RLPost.good (HM5.out.more (by repeat (first | exact Kp.refl _ _ | apply Kp.alloc))) (HCC.out.end_ (by rw [HE5.out]; exact chain_end_none D ss fst lst _ at_ HNF.out HSG.out R HRR.out HUK.out HUG.out))
        · have hsg' : signedB R = false := by simpa using hsg
          go_wp2_with (first | (go_at_call 9; refine (signed_any _ R _ HROW.out hRl).mono ?_; rintro e w' ⟨rfl, rfl⟩))
          go_ret2
          exact RLPost.good HM2.out (HCC.out.end_ (by rw [show 256 - i = 255 - i + 1 from by omega]; exact chain_unsigned D ss fst lst _ at_ (by rw [HON.out]; exact hfar) (by rw [HON.out, ← HRE.out]; exact hsg')))
    · obtain rfl : i = 256 := by omega
      have HCC := hide hC
      have HMM := hide hM
      clear hC hM
      go_wp2_with (go_at_call 13; refine (untr2 _ num 256 _ _ ?q1 ?q2 ?q3).mono ?_)
      case q1 => kernel_rfl
      case q2 => go_simp
      case q3 => go_simp
      rintro e w2 ⟨⟨N, rfl⟩, hb⟩
      have HB := hide hb
      clear hb
      go_wp2
      go_ret2
      exact RLPost.bad (HMM.out.more (((Kp.refl _ wr).alloc _).trans (Kp.of_below HB.out) (fun _ _ h => h))) (HCC.out.end_ rfl) _ _
end Go.Proofs.Qxb6616795aFmt
