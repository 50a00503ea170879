/-
  A map from addresses to times, entry by entry: look-ups and stores.
-/
import Derived.Test.Qxb6616866aDoorAd
import Derived.Test.Qxb6616866aDoorSub
import Derived.MapKept
import Derived.LaidEqlPtr
namespace Go.Proofs.Qxb6616866aDoor
open Go.RowKit
set_option linter.unusedVariables false
theorem si54 : Tryd.prog.stoodInHeld 54 = false := by kernel_rfl
theorem si52 : Tryd.prog.stoodInHeld 52 = false := by kernel_rfl
theorem si50 : Tryd.prog.stoodInHeld 50 = false := by kernel_rfl
theorem si47 : Tryd.prog.stoodInHeld 47 = false := by kernel_rfl
theorem p52 (w : World) (c0 c1 c2 c3 : Value) : (part 52 #[c0, c1, c2, c3] 0).run Tryd.prog w = .ok (.agg #[c0, c1, c2]) w := by kernel_rfl
theorem p26 (w : World) (c0 c1 c2 c3 : Value) : (part 26 #[c0, c1, c2, c3] 3).run Tryd.prog w = .ok c3 w := by kernel_rfl
theorem p47 (w : World) (c0 c1 c2 : Value) : (part 47 #[c0, c1, c2] 0).run Tryd.prog w = .ok (.agg #[c0, c1]) w := by kernel_rfl
theorem p50 (w : World) (c0 c1 c2 : Value) : (part 50 #[c0, c1, c2] 2).run Tryd.prog w = .ok (.agg #[c2]) w := by kernel_rfl
theorem p41a (w : World) (c0 c1 : Value) : (part 41 #[c0, c1] 0).run Tryd.prog w = .ok c0 w := by kernel_rfl
theorem p41b (w : World) (c0 c1 : Value) : (part 41 #[c0, c1] 1).run Tryd.prog w = .ok c1 w := by kernel_rfl
theorem p48 (w : World) (c0 : Value) : (part 48 #[c0] 0).run Tryd.prog w = .ok c0 w := by kernel_rfl

theorem fs54 : Tryd.prog.fieldsOf 54 = #[{ name := "ip", type := 52, offset := 0, embedded := false, tag := "", pkgPath := "net/netip", byteOffset := 0 }, { name := "port", type := 26, offset := 3, embedded := false, tag := "", pkgPath := "net/netip", byteOffset := 24 }] := by kernel_rfl
theorem fs52 : Tryd.prog.fieldsOf 52 = #[{ name := "addr", type := 47, offset := 0, embedded := false, tag := "", pkgPath := "net/netip", byteOffset := 0 }, { name := "z", type := 50, offset := 2, embedded := false, tag := "", pkgPath := "net/netip", byteOffset := 16 }] := by kernel_rfl
theorem fs50 : Tryd.prog.fieldsOf 50 = #[{ name := "value", type := 48, offset := 0, embedded := false, tag := "", pkgPath := "unique", byteOffset := 0 }] := by kernel_rfl
theorem fs47 : Tryd.prog.fieldsOf 47 = #[{ name := "hi", type := 41, offset := 0, embedded := false, tag := "", pkgPath := "net/netip", byteOffset := 0 }, { name := "lo", type := 41, offset := 1, embedded := false, tag := "", pkgPath := "net/netip", byteOffset := 8 }] := by kernel_rfl
theorem info97 : ∃ j, Tryd.prog.info? 97 = some j := ⟨_, (show Tryd.prog.info? 97 = some ((Tryd.prog.info? 97).getD default) by kernel_rfl)⟩
theorem eq48 (d : Nat) (a : Addr) (w : World) : (Op.equalIn (d + 1) 48 (.pointer (some a)) (.pointer (some a))).run Tryd.prog w = .ok true w := by
  obtain ⟨j, hj⟩ := info97
  simp [Op.equalIn, run_underlying Tryd.underlying48, sizeOf, typeInfo, hj, run_sameAddr_same]
theorem eq50 (d : Nat) (a : Addr) (w : World) : (Op.equalIn (d + 2) 50 (.agg #[.pointer (some a)]) (.agg #[.pointer (some a)])).run Tryd.prog w = .ok true w := by
  rw [run_equalIn_struct w (d + 1) 50 _ _ (by rw [fs50]; exact Tryd.underlying50) si50, fs50]
  simp [Op.eqFields, p48, eq48, Result.andThen]
theorem eq47 (d : Nat) (x y : Int) (w : World) : (Op.equalIn (d + 2) 47 (.agg #[.int .u64 0, .int .u64 x]) (.agg #[.int .u64 0, .int .u64 y])).run Tryd.prog w = .ok (x == y) w := by
  rw [run_equalIn_struct w (d + 1) 47 _ _ (by rw [fs47]; exact Tryd.underlying47) si47, fs47]
  cases h : (x == y) <;> simp [Op.eqFields, p41a, p41b, run_equalIn_int _ d 41 _ _ _ _ Tryd.underlying41, Result.andThen, h]
theorem eq52 (d : Nat) (x y : Int) (a : Addr) (w : World) : (Op.equalIn (d + 3) 52 (.agg #[.int .u64 0, .int .u64 x, .pointer (some a)]) (.agg #[.int .u64 0, .int .u64 y, .pointer (some a)])).run Tryd.prog w = .ok (x == y) w := by
  rw [run_equalIn_struct w (d + 2) 52 _ _ (by rw [fs52]; exact Tryd.underlying52) si52, fs52]
  cases h : (x == y) <;> simp [Op.eqFields, p47, p50, eq47, eq50, Result.andThen, h]
theorem eq54 (x y p q : Int) (a : Addr) (w : World) : (Op.equal 54 (.agg #[.int .u64 0, .int .u64 x, .pointer (some a), .int .u16 p]) (.agg #[.int .u64 0, .int .u64 y, .pointer (some a), .int .u16 q])).run Tryd.prog w = .ok ((x == y) && (p == q)) w := by
  show (Op.equalIn (9999 + 1) 54 _ _).run Tryd.prog w = _
  rw [run_equalIn_struct w 9999 54 _ _ (by rw [fs54]; exact Tryd.underlying54) si54, fs54]
  have h52 := eq52 9996 x y a w
  cases h : (x == y) <;> cases h' : (p == q) <;> simp [Op.eqFields, p52, p26, h52, run_equalIn_int _ 9998 26 _ _ _ _ Tryd.underlying26, Result.andThen, h, h']

/-- The key's equality. -/
theorem kv_eq (z : Addr) (a p a' p' : Int) (w : World) : (Op.equal 54 (kv (some z) a p) (kv (some z) a' p')).run Tryd.prog w = .ok ((a == a') && (p == p')) w := by
  unfold kv
  rw [eq54]
  have : (281470681743360 + a == 281470681743360 + a') = (a == a') := by
    rw [Bool.eq_iff_iff]
    simp
  rw [this]

theorem ck41 (em : Bool) (d : Nat) (x : Int) (w : World) : (Instr.checkKey em (d + 1) 41 (.int .u64 x)).run Tryd.prog w = .ok () w := by simp [Instr.checkKey, run_underlying Tryd.underlying41]
theorem ck26 (em : Bool) (d : Nat) (x : Int) (w : World) : (Instr.checkKey em (d + 1) 26 (.int .u16 x)).run Tryd.prog w = .ok () w := by simp [Instr.checkKey, run_underlying Tryd.underlying26]
theorem ck48 (em : Bool) (d : Nat) (x : Addr) (w : World) : (Instr.checkKey em (d + 1) 48 (.pointer (some x))).run Tryd.prog w = .ok () w := by simp [Instr.checkKey, run_underlying Tryd.underlying48]
theorem ck47 (em : Bool) (d : Nat) (x y : Int) (w : World) : (Instr.checkKey em (d + 2) 47 (.agg #[.int .u64 x, .int .u64 y])).run Tryd.prog w = .ok () w := by
  rw [Instr.checkKey]
  simp [run_underlying Tryd.underlying47, p41a, p41b, ck41, Result.andThen]
theorem ck50 (em : Bool) (d : Nat) (a : Addr) (w : World) : (Instr.checkKey em (d + 2) 50 (.agg #[.pointer (some a)])).run Tryd.prog w = .ok () w := by
  rw [Instr.checkKey]
  simp [run_underlying Tryd.underlying50, p48, ck48, Result.andThen]
theorem ck52 (em : Bool) (d : Nat) (x y : Int) (a : Addr) (w : World) : (Instr.checkKey em (d + 3) 52 (.agg #[.int .u64 x, .int .u64 y, .pointer (some a)])).run Tryd.prog w = .ok () w := by
  rw [Instr.checkKey]
  simp [run_underlying Tryd.underlying52, p47, p50, ck47, ck50, Result.andThen]
theorem kv_ck (em : Bool) (z : Addr) (a p : Int) (w : World) : (Instr.checkKey em 10000 54 (kv (some z) a p)).run Tryd.prog w = .ok () w := by
  show (Instr.checkKey em (9999 + 1) 54 _).run Tryd.prog w = _
  unfold kv
  rw [Instr.checkKey]
  have h52 := ck52 em 9996 0 (281470681743360 + a) z w
  simp [run_underlying Tryd.underlying54, p52, p26, h52, ck26 em 9998, Result.andThen]

/-- The time that stands d behind the zero time. -/
def td (d : Int) : Value := .agg #[.int .u64 (d % 1000000000), .int .i64 (d / 1000000000), .pointer none]
/-- Entries and what they say. -/
def Mt (z : Addr) : List MapEntry → List (Int × Int × Int) → Prop
  | [], [] => True
  | e :: es, t :: ts => e.key = kv (some z) t.1 t.2.1 ∧ e.val = td t.2.2 ∧ Mt z es ts
  | _, _ => False
def look (a p : Int) : List (Int × Int × Int) → Option Int
  | [] => none
  | t :: ts => if a = t.1 ∧ p = t.2.1 then some t.2.2 else look a p ts
def upd (a p d : Int) : List (Int × Int × Int) → List (Int × Int × Int)
  | [] => [(a, p, d)]
  | t :: ts => if a = t.1 ∧ p = t.2.1 then (a, p, d) :: ts else t :: upd a p d ts
theorem look_upd (a p d a' p' : Int) : ∀ L, look a' p' (upd a p d L) = if a' = a ∧ p' = p then some d else look a' p' L
  | [] => by simp [upd, look]
  | t :: ts => by
    by_cases h : a = t.1 ∧ p = t.2.1
    · obtain ⟨rfl, rfl⟩ := h
      have e : upd t.1 t.2.1 d (t :: ts) = (t.1, t.2.1, d) :: ts := if_pos ⟨rfl, rfl⟩
      rw [e]
      simp only [look]
      by_cases h2 : a' = t.1 ∧ p' = t.2.1
      · rw [if_pos h2, if_pos h2]
      · rw [if_neg h2, if_neg h2, if_neg h2]
    · simp only [upd, if_neg h, look, look_upd a p d a' p' ts]
      by_cases h2 : a' = t.1 ∧ p' = t.2.1
      · obtain ⟨rfl, rfl⟩ := h2
        rw [if_pos (⟨rfl, rfl⟩ : t.1 = t.1 ∧ t.2.1 = t.2.1), if_pos (⟨rfl, rfl⟩ : t.1 = t.1 ∧ t.2.1 = t.2.1), if_neg (fun h3 => h ⟨h3.1.symm, h3.2.symm⟩)]
      · rw [if_neg h2, if_neg h2]

theorem find_any (z : Addr) (a p : Int) (w : World) : ∀ (es : List MapEntry) (L : List (Int × Int × Int)) (i : Nat), Mt z es L →
    (look a p L = none ∧ (Instr.findAsking 54 (kv (some z) a p) es i).run Tryd.prog w = .ok none w ∧ ∀ d n, Mt z (es ++ [{ key := kv (some z) a p, val := td d, born := n }]) (upd a p d L)) ∨
    ∃ j e d0, es[j]? = some e ∧ e.key = kv (some z) a p ∧ e.val = td d0 ∧ look a p L = some d0 ∧ (Instr.findAsking 54 (kv (some z) a p) es i).run Tryd.prog w = .ok (some (i + j, td d0)) w ∧ ∀ d, Mt z (es.modify j fun e => { e with key := kv (some z) a p, val := td d }) (upd a p d L)
  | [], [], i, _ => .inl ⟨rfl, by simp [Instr.findAsking], fun d n => ⟨rfl, rfl, trivial⟩⟩
  | e :: es, t :: ts, i, h => by
    obtain ⟨hk, hv, hm⟩ := h
    by_cases he : a = t.1 ∧ p = t.2.1
    · obtain ⟨rfl, rfl⟩ := he
      refine .inr ⟨0, e, t.2.2, rfl, hk, hv, by simp [look], ?_, fun d => ?_⟩
      · simp [Instr.findAsking, hk, kv_eq, hv, Result.andThen]
      · have e : upd t.1 t.2.1 d (t :: ts) = (t.1, t.2.1, d) :: ts := if_pos ⟨rfl, rfl⟩
        rw [e, List.modify_zero_cons]
        exact ⟨rfl, rfl, hm⟩
    · have hb : ((a == t.1) && (p == t.2.1)) = false := by simpa using fun h1 h2 => he ⟨h1, h2⟩
      have hs : (Instr.findAsking 54 (kv (some z) a p) (e :: es) i).run Tryd.prog w = (Instr.findAsking 54 (kv (some z) a p) es (i + 1)).run Tryd.prog w := by
        rw [Instr.findAsking]
        simp [hk, kv_eq, hb, Result.andThen]
      rcases find_any z a p w es ts (i + 1) hm with ⟨h1, h2, h3⟩ | ⟨j, e', d0, h1, h2, h3, h4, h5, h6⟩
      · refine .inl ⟨by simp [look, he, h1], by rw [hs, h2], fun d n => ?_⟩
        simp only [upd, if_neg he]
        exact ⟨hk, hv, h3 d n⟩
      · refine .inr ⟨j + 1, e', d0, h1, h2, h3, by simp [look, he, h4], by rw [hs, h5, show i + 1 + j = i + (j + 1) by omega], fun d => ?_⟩
        simp only [upd, if_neg he, List.modify_succ_cons]
        exact ⟨hk, hv, h6 d⟩
  | [], _ :: _, _, h => h.elim
  | _ :: _, [], _, h => h.elim

theorem findKey_is (z : Addr) (a p : Int) (w : World) (es : List MapEntry) : (Instr.findKey 54 (kv (some z) a p) es).run Tryd.prog w = (Instr.findAsking 54 (kv (some z) a p) es 0).run Tryd.prog w := by
  unfold Instr.findKey
  cases es with
  | nil => simp [run_underlying Tryd.underlying54, Instr.findNow, Instr.findAsking]
  | cons e es => simp [run_underlying Tryd.underlying54, Instr.findNow, Instr.sameNow, kv]

/-- Block M is a map that says L. -/
def Mp (z : Addr) (L : List (Int × Int × Int)) (M : Nat) (w : World) : Prop := ∃ es clock, w.heap[M]? = some (.map es clock) ∧ Mt z es.toList L
theorem Mp.kp {z : Addr} {L : List (Int × Int × Int)} {M : Nat} {w w' : World} {S : Nat → Prop} (h : Mp z L M w) (hk : Kp S w w') (hs : ¬ S M) : Mp z L M w' := by
  obtain ⟨es, c, h1, h2⟩ := h
  exact ⟨es, c, hk.row h1 hs, h2⟩

theorem kv_same (z : Addr) (a p : Int) : Instr.sameBits 10000 (kv (some z) a p) (kv (some z) a p) = true := by
  unfold kv
  show Instr.sameBits (9999 + 1) _ _ = true
  simp [Instr.sameBits]

theorem lookup_run (z : Addr) (L : List (Int × Int × Int)) (M : Nat) (a p : Int) (w : World) (h : Mp z L M w) :
    (Instr.lookup 33 (.map (some M)) (kv (some z) a p) false).run Tryd.prog w = .ok (td ((look a p L).getD 0)) w := by
  obtain ⟨es, c, h1, h2⟩ := h
  have hz : (zeroValue 44).run Tryd.prog w = .ok (td 0) w := by kernel_rfl
  rcases find_any z a p w es.toList L 0 h2 with ⟨h3, h4, _⟩ | ⟨j, e, d0, _, _, _, h3, h4, _⟩
  · simp [Instr.lookup, run_underlying Tryd.underlying33, MapKept.run_getObj_map h1, kv_ck, findKey_is, h3, h4, hz, Result.andThen]
  · simp [Instr.lookup, run_underlying Tryd.underlying33, MapKept.run_getObj_map h1, kv_ck, findKey_is, h3, h4, Result.andThen]

theorem update_run (z : Addr) (L : List (Int × Int × Int)) (M : Nat) (a p d : Int) (w : World) (h : Mp z L M w) :
    ∃ w', (Instr.mapUpdate 33 (.map (some M)) (kv (some z) a p) (td d)).run Tryd.prog w = .ok () w' ∧ Mp z (upd a p d L) M w' ∧ Kp (fun j => j = M) w w' := by
  obtain ⟨es, c, h1, h2⟩ := h
  rcases find_any z a p w es.toList L 0 h2 with ⟨h3, h4, h5⟩ | ⟨j, e, d0, h6, h7, h8, h3, h4, h5⟩
  · refine ⟨{ w with heap := w.heap.setIfInBounds M (.map (es.push { key := kv (some z) a p, val := td d, born := c }) (c + 1)) }, by simp [Instr.mapUpdate, run_underlying Tryd.underlying33, MapKept.run_getObj_map h1, kv_ck, findKey_is, h4, MapKept.run_setObj_map _ h1, Result.andThen], ?_, ?_⟩
    · exact ⟨_, _, (MapKept.heap_set h1).1, by simpa using h5 d c⟩
    · exact ⟨rfl, rfl, rfl, by simp, fun k _ hk => (MapKept.heap_set h1).2 k hk⟩
  · have hj : es[j]? = some e := by simpa using h6
    refine ⟨{ w with heap := w.heap.setIfInBounds M (.map (es.modify j fun e => { e with key := kv (some z) a p, val := td d }) c) }, by simp [Instr.mapUpdate, run_underlying Tryd.underlying33, MapKept.run_getObj_map h1, kv_ck, findKey_is, h4, hj, h7, Instr.keyThatStays, kv_same, MapKept.run_setObj_map _ h1, Result.andThen], ?_, ?_⟩
    · exact ⟨_, _, (MapKept.heap_set h1).1, by simpa using h5 d⟩
    · exact ⟨rfl, rfl, rfl, by simp, fun k _ hk => (MapKept.heap_set h1).2 k hk⟩
end Go.Proofs.Qxb6616866aDoor
