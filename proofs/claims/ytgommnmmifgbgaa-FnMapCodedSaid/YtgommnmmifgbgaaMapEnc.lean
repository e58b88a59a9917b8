/-
  A mapping's own encoding, and what is read of it; Equals. (Printed by gen_mapenc.py.)
-/
import Derived.Test.YtgommnmmifgbgaaDecF
import Derived.Test.YtgommnmmifgbgaaMapped
import Derived.Test.YtgommnmmifgbgaaMapEq
import Derived.Deep.QuietTactic
import Derived.BigQuiet
namespace Go.Proofs.Ytgommnmmifgbgaa
open Go.RowKit

theorem own_lt {w : World} {base : Nat} {e : TypeId} {size : Nat} {v : Value} {n : Nat} {xs : List Value} (h : w.ownsRow base e size v n xs) : ∀ k, v.ownBlock = some k → k < w.heap.size := by
  intro k hk
  rcases h.2 with ⟨rfl, _⟩ | ⟨g, cap, cur, rfl, _, hg, _⟩
  · simp [Value.ownBlock] at hk
  · simp [Value.ownBlock] at hk; subst hk; exact lt_of_block hg

theorem Buf.later {tS tE : TypeId} {w w1 : World} {p : Nat} {r : Option Nat} {xs : List Nat} (h : Buf tS tE w p r xs) (hb : Below w.heap.size w w1) : Buf tS tE w1 p r xs := by
  obtain ⟨s, hc, ho, hr⟩ := h
  exact ⟨s, below_heap hb hc, (Fr.of_below hb).owns ho (fun k hk => by have := own_lt ho k hk; omega), hr⟩

theorem GrewTo.below {tS tE : TypeId} {w w1 : World} {p : Nat} {r : Option Nat} {xs : List Nat} (h : Buf tS tE w p r xs) (hb : Below w.heap.size w w1) : GrewTo tS tE w w1 p r xs :=
  ⟨r, h.later hb, (Fr.of_below hb).mono (fun i hi h => by omega), .inl rfl⟩

/-- A block that is neither the variable's nor its row's stays as it was. -/
theorem GrewTo.heap {tS tE : TypeId} {w w1 : World} {p m : Nat} {r : Option Nat} {xs : List Nat} {ob : Obj} (h : GrewTo tS tE w w1 p r xs) (hm : w.heap[m]? = some ob) (h1 : m ≠ p) (h2 : r ≠ some m) : w1.heap[m]? = some ob := by
  obtain ⟨r', _, hf, _⟩ := h
  exact hf.heap hm (fun h => h.elim h1 h2)

theorem Buf.same {tS tE : TypeId} {w : World} {p : Nat} {r1 r2 : Option Nat} {xs ys : List Nat} (h : Buf tS tE w p r1 xs) (k : Buf tS tE w p r2 ys) : r1 = r2 := by
  obtain ⟨s, h1, _, rfl⟩ := h
  obtain ⟨u, k1, _, rfl⟩ := k
  rw [h1] at k1
  cases k1
  rfl

theorem GrewTo.chain {tS tE : TypeId} {a b c : World} {p : Nat} {r r1 : Option Nat} {ys zs : List Nat} (h : GrewTo tS tE a b p r ys) (hB : Buf tS tE b p r1 ys) (k : GrewTo tS tE b c p r1 zs) : GrewTo tS tE a c p r zs :=
  h.trans fun r' hb' => by rw [hb'.same hB]; exact k

/-- x.( *T), ok, where x holds a *T. -/
theorem run_assert_same {P : Program} (t xT e : TypeId) (v : Value) (hu : P.underlying t = some (.pointer e)) (w : World) : (Instr.typeAssert (.iface t v) xT t true).run P w = .ok (.tuple #[v, .bool true]) w := by
  simp [Instr.typeAssert, run_underlying hu]

/-- .. where it holds something else. -/
theorem run_assert_other {P : Program} (t u xT e : TypeId) (v : Value) (hu : P.underlying u = some (.pointer e)) (htu : t ≠ u) (hz : ∀ w, (zeroValue u).run P w = .ok (.pointer none) w) (w : World) : (Instr.typeAssert (.iface t v) xT u true).run P w = .ok (.tuple #[.pointer none, .bool false]) w := by
  simp [Instr.typeAssert, run_underlying hu, htu, hz]

/-- A contract that leaves the world alone, in a region that only reads. -/
theorem quiet_of_eq {P : Program} {f : FuncId} {args : Array Value} {w : World} {n : Nat} {v : Value}
    (h : Calls P f args (w.drewN n) fun e w' => e = .returned v ∧ w.drewN n = w') : Calls P f args (w.drewN n) fun e w'' => e = .returned v ∧ ∃ m, w'' = w.drewN m :=
  h.mono fun _ _ ⟨he, hm⟩ => ⟨he, n, hm.symm⟩

/-- A struct of five floats. -/
def Five (t : TypeId) (w : World) (m g off mult mn mx : Nat) : Prop := w.heap[m]? = some (.cells #[.float .f64 g, .float .f64 off, .float .f64 mult, .float .f64 mn, .float .f64 mx] t (0, 0))
theorem Five.cells {t : TypeId} {w : World} {m g off mult mn mx : Nat} (h : Five t w m g off mult mn mx) :
    w.cell? ⟨m, 0, none⟩ = some (.float .f64 g) ∧ w.cell? ⟨m, 1, none⟩ = some (.float .f64 off) ∧ w.cell? ⟨m, 2, none⟩ = some (.float .f64 mult) ∧ w.cell? ⟨m, 3, none⟩ = some (.float .f64 mn) ∧ w.cell? ⟨m, 4, none⟩ = some (.float .f64 mx) :=
  ⟨cell_of_row _ _ 0 _ _ _ h, cell_of_row _ _ 1 _ _ _ h, cell_of_row _ _ 2 _ _ _ h, cell_of_row _ _ 3 _ _ _ h, cell_of_row _ _ 4 _ _ _ h⟩

/-- What DecodeFloat64LE takes twice: the two floats; the slice at p starts sixteen places farther on. -/
def TookTwo (g off p : Nat) (s : Value) (w : World) (e : Ending) (w' : World) : Prop :=
  e = .returned (.tuple #[.float .f64 g, .float .f64 off, .nilIface]) ∧ w'.heap[p]? = some (.cells #[s] 36 (0, 0)) ∧ Fr (fun k => k = p) w w'

theorem Has8.other {w w' : World} {g off v : Nat} {S : Nat → Prop} (h : Has8 w g off v) (hf : Fr S w w') (hg : ¬ S g) : Has8 w' g off v :=
  fun i hi => hf.cell (h i hi) hg

set_option maxRecDepth 100000 in
set_option maxHeartbeats 400000 in
theorem decTwo_any (p q o c g off : Nat) (hg : g < 18446744073709551616) (ho : off < 18446744073709551616) (hc : 16 ≤ c) (hpq : q ≠ p) (w : World) (h1 : Has8 w q o g) (h2 : Has8 w q (o + 8) off)
    (hp : w.heap[p]? = some (.cells #[.slice (some ⟨q, o, none⟩) 16 c] 36 (0, 0))) :
    Calls Try.prog 25 #[.pointer (some ⟨p, 0, none⟩)] w fun e w' => ∃ ao, TookTwo g off p (.slice ao 0 (c - 16)) w e w' := by
  have H1 := decF_any p q o 16 c g hg (by omega) (by omega) hc w h1 hp
  have H2 := fun w (h2 : Has8 w q (o + 8) off) hp => decF_any p q (o + 8) 8 (c - 8) off ho (by omega) (by omega) (by omega) w h2 hp
  have HP := Lib.hid hp
  have HH := Lib.hid h2
  have HC := Lib.hid hc
  clear hp h1 h2 hc
  go_enter Try.func25, Try.ntmps25
  go_wp2_with fail
  refine H1.mono ?_
  rintro e w1 ⟨ao1, rfl, rfl, ha1⟩
  have hc := HC.out
  obtain rfl : ao1 = some ⟨q, o + 8, none⟩ := by rcases ha1 with h | h; · omega
                                                 · exact h
  have hf1 : Fr (fun k => k = p) w (w.setCell ⟨p, 0, none⟩ (.slice (some ⟨q, o + 8, none⟩) (16 - 8) (c - 8))) := (Fr.refl (fun k => k = p) w).setCell (fun _ => rfl) _
  have H3 := H2 _ (HH.out.other hf1 hpq) (one_setCell HP.out)
  have HF := Lib.hid hf1
  have HO := Lib.hid (one_setCell (u := .slice (some ⟨q, o + 8, none⟩) (16 - 8) (c - 8)) HP.out)
  clear H1 H2 hf1 ha1 hc
  revert H3 HF HO
  generalize w.setCell ⟨p, 0, none⟩ (.slice (some ⟨q, o + 8, none⟩) (16 - 8) (c - 8)) = w2
  intro H3 HF HO
  go_wp2_with fail
  refine H3.mono ?_
  rintro e w3 ⟨ao2, rfl, rfl, ha2⟩
  have HK := Lib.hid (one_setCell (u := .slice ao2 (8 - 8) (c - 8 - 8)) HO.out)
  have HG := Lib.hid (HF.out.setCell (p := ⟨p, 0, none⟩) (fun _ => rfl) (.slice ao2 (8 - 8) (c - 8 - 8)))
  clear H3 HF HO ha2
  revert HK HG
  generalize w2.setCell ⟨p, 0, none⟩ (.slice ao2 (8 - 8) (c - 8 - 8)) = w4
  intro HK HG
  go_wp2
  go_ret3
  refine ⟨ao2, rfl, ?_, HG.out⟩
  have := HK.out
  rw [show c - 8 - 8 = c - 16 from by omega] at this
  exact this

set_option maxRecDepth 100000 in
set_option maxHeartbeats 400000 in
theorem encLog_any (m p g off mult mn mx : Nat) (r : Option Nat) (xs : List Nat) (w : World) (hm : Five 88 w m g off mult mn mx) (hmp : m ≠ p) (hmr : r ≠ some m)
   (hb : Buf 36 5 w p r xs) (hn : xs.length < 1000000) :
    Calls Try.prog 91 #[.pointer (some ⟨m, 0, none⟩), .pointer (some ⟨p, 0, none⟩)] w fun e w' => e = .returned (.tuple #[]) ∧ GrewTo 36 5 w w' p r (xs ++ [2] ++ leB g 8 ++ leB off 8) := by
  have hml := lt_of_block hm
  have HM := Lib.hid hm
  have HB := Lib.hid hb
  clear hm hb
  go_enter Try.func91, Try.ntmps91
  go_wp2_with fail
  refine (flagLog_any w).mono ?_
  rintro e w1 ⟨rfl, hb1⟩
  have G1 := GrewTo.below HB.out hb1
  have hs1 := hb1.size
  have B1 := HB.out.later hb1
  have M1 : Five 88 w1 m g off mult mn mx := below_heap hb1 HM.out
  have HG1 := Lib.hid G1
  have HB1 := Lib.hid B1
  have HM1 := Lib.hid M1
  have H2 := encFlag_any p r 2 xs w1 B1 (by omega)
  clear G1 M1 B1 hb1
  go_wp2_with fail
  refine H2.mono ?_
  rintro e w2 ⟨rfl, hg2⟩
  have M2 : Five 88 w2 m g off mult mn mx := hg2.heap HM1.out hmp hmr
  obtain ⟨r2, B2, F2, R2⟩ := id hg2
  have hmr2 : r2 ≠ some m := by
    rcases R2 with h | ⟨k, h, hk⟩
    · rw [h]; exact hmr
    · rw [h]; intro e; cases e; omega
  have hs2 := F2.size
  obtain ⟨c0, c1, -⟩ := M2.cells
  have H3 := encF_any p r2 g (xs ++ [2]) w2 B2 (by simp; omega)
  have HG2 := Lib.hid hg2
  have HB2 := Lib.hid B2
  have HM2 := Lib.hid M2
  clear H2 hg2 M2 B2 F2 R2
  go_wp2_with fail
  refine H3.mono ?_
  rintro e w3 ⟨rfl, hg3⟩
  have M3 : Five 88 w3 m g off mult mn mx := hg3.heap HM2.out hmp hmr2
  obtain ⟨r3, B3, F3, R3⟩ := id hg3
  obtain ⟨c2, c3, -⟩ := M3.cells
  have H4 := encF_any p r3 off (xs ++ [2] ++ leB g 8) w3 B3 (by simp [leB_len]; omega)
  have HG3 := Lib.hid hg3
  have HB3 := Lib.hid B3
  clear H3 hg3 M3 B3 F3 R3 c0 c1
  go_wp2_with fail
  refine H4.mono ?_
  rintro e w4 ⟨rfl, hg4⟩
  have HG4 := Lib.hid hg4
  clear H4 hg4
  go_wp2
  go_end0
  exact ⟨rfl, ((HG1.out.chain HB1.out HG2.out).chain HB2.out HG3.out).chain HB3.out HG4.out⟩

set_option maxRecDepth 100000 in
set_option maxHeartbeats 400000 in
theorem encLin_any (m p g off mult mn mx : Nat) (r : Option Nat) (xs : List Nat) (w : World) (hm : Five 89 w m g off mult mn mx) (hmp : m ≠ p) (hmr : r ≠ some m)
   (hb : Buf 36 5 w p r xs) (hn : xs.length < 1000000) :
    Calls Try.prog 103 #[.pointer (some ⟨m, 0, none⟩), .pointer (some ⟨p, 0, none⟩)] w fun e w' => e = .returned (.tuple #[]) ∧ GrewTo 36 5 w w' p r (xs ++ [6] ++ leB g 8 ++ leB off 8) := by
  have hml := lt_of_block hm
  have HM := Lib.hid hm
  have HB := Lib.hid hb
  clear hm hb
  go_enter Try.func103, Try.ntmps103
  go_wp2_with fail
  refine (flagLin_any w).mono ?_
  rintro e w1 ⟨rfl, hb1⟩
  have G1 := GrewTo.below HB.out hb1
  have hs1 := hb1.size
  have B1 := HB.out.later hb1
  have M1 : Five 89 w1 m g off mult mn mx := below_heap hb1 HM.out
  have HG1 := Lib.hid G1
  have HB1 := Lib.hid B1
  have HM1 := Lib.hid M1
  have H2 := encFlag_any p r 6 xs w1 B1 (by omega)
  clear G1 M1 B1 hb1
  go_wp2_with fail
  refine H2.mono ?_
  rintro e w2 ⟨rfl, hg2⟩
  have M2 : Five 89 w2 m g off mult mn mx := hg2.heap HM1.out hmp hmr
  obtain ⟨r2, B2, F2, R2⟩ := id hg2
  have hmr2 : r2 ≠ some m := by
    rcases R2 with h | ⟨k, h, hk⟩
    · rw [h]; exact hmr
    · rw [h]; intro e; cases e; omega
  have hs2 := F2.size
  obtain ⟨c0, c1, -⟩ := M2.cells
  have H3 := encF_any p r2 g (xs ++ [6]) w2 B2 (by simp; omega)
  have HG2 := Lib.hid hg2
  have HB2 := Lib.hid B2
  have HM2 := Lib.hid M2
  clear H2 hg2 M2 B2 F2 R2
  go_wp2_with fail
  refine H3.mono ?_
  rintro e w3 ⟨rfl, hg3⟩
  have M3 : Five 89 w3 m g off mult mn mx := hg3.heap HM2.out hmp hmr2
  obtain ⟨r3, B3, F3, R3⟩ := id hg3
  obtain ⟨c2, c3, -⟩ := M3.cells
  have H4 := encF_any p r3 off (xs ++ [6] ++ leB g 8) w3 B3 (by simp [leB_len]; omega)
  have HG3 := Lib.hid hg3
  have HB3 := Lib.hid B3
  clear H3 hg3 M3 B3 F3 R3 c0 c1
  go_wp2_with fail
  refine H4.mono ?_
  rintro e w4 ⟨rfl, hg4⟩
  have HG4 := Lib.hid hg4
  clear H4 hg4
  go_wp2
  go_end0
  exact ⟨rfl, ((HG1.out.chain HB1.out HG2.out).chain HB2.out HG3.out).chain HB3.out HG4.out⟩

set_option maxRecDepth 100000 in
set_option maxHeartbeats 400000 in
theorem encCub_any (m p g off mult mn mx : Nat) (r : Option Nat) (xs : List Nat) (w : World) (hm : Five 90 w m g off mult mn mx) (hmp : m ≠ p) (hmr : r ≠ some m)
   (hb : Buf 36 5 w p r xs) (hn : xs.length < 1000000) :
    Calls Try.prog 118 #[.pointer (some ⟨m, 0, none⟩), .pointer (some ⟨p, 0, none⟩)] w fun e w' => e = .returned (.tuple #[]) ∧ GrewTo 36 5 w w' p r (xs ++ [14] ++ leB g 8 ++ leB off 8) := by
  have hml := lt_of_block hm
  have HM := Lib.hid hm
  have HB := Lib.hid hb
  clear hm hb
  go_enter Try.func118, Try.ntmps118
  go_wp2_with fail
  refine (flagCub_any w).mono ?_
  rintro e w1 ⟨rfl, hb1⟩
  have G1 := GrewTo.below HB.out hb1
  have hs1 := hb1.size
  have B1 := HB.out.later hb1
  have M1 : Five 90 w1 m g off mult mn mx := below_heap hb1 HM.out
  have HG1 := Lib.hid G1
  have HB1 := Lib.hid B1
  have HM1 := Lib.hid M1
  have H2 := encFlag_any p r 14 xs w1 B1 (by omega)
  clear G1 M1 B1 hb1
  go_wp2_with fail
  refine H2.mono ?_
  rintro e w2 ⟨rfl, hg2⟩
  have M2 : Five 90 w2 m g off mult mn mx := hg2.heap HM1.out hmp hmr
  obtain ⟨r2, B2, F2, R2⟩ := id hg2
  have hmr2 : r2 ≠ some m := by
    rcases R2 with h | ⟨k, h, hk⟩
    · rw [h]; exact hmr
    · rw [h]; intro e; cases e; omega
  have hs2 := F2.size
  obtain ⟨c0, c1, -⟩ := M2.cells
  have H3 := encF_any p r2 g (xs ++ [14]) w2 B2 (by simp; omega)
  have HG2 := Lib.hid hg2
  have HB2 := Lib.hid B2
  have HM2 := Lib.hid M2
  clear H2 hg2 M2 B2 F2 R2
  go_wp2_with fail
  refine H3.mono ?_
  rintro e w3 ⟨rfl, hg3⟩
  have M3 : Five 90 w3 m g off mult mn mx := hg3.heap HM2.out hmp hmr2
  obtain ⟨r3, B3, F3, R3⟩ := id hg3
  obtain ⟨c2, c3, -⟩ := M3.cells
  have H4 := encF_any p r3 off (xs ++ [14] ++ leB g 8) w3 B3 (by simp [leB_len]; omega)
  have HG3 := Lib.hid hg3
  have HB3 := Lib.hid B3
  clear H3 hg3 M3 B3 F3 R3 c0 c1
  go_wp2_with fail
  refine H4.mono ?_
  rintro e w4 ⟨rfl, hg4⟩
  have HG4 := Lib.hid hg4
  clear H4 hg4
  go_wp2
  go_end0
  exact ⟨rfl, ((HG1.out.chain HB1.out HG2.out).chain HB2.out HG3.out).chain HB3.out HG4.out⟩

set_option maxRecDepth 100000 in
set_option maxHeartbeats 400000 in
theorem eqLog_any (m n g off mult mn mx mult' mn' mx' : Nat) (w : World) (hm : Five 88 w m g off mult mn mx) (hn : Five 88 w n g off mult' mn' mx')
   (h1 : ∀ w, Calls Try.prog 101 #[.float .f64 g, .float .f64 g, .float .f64 4427486594234968593] w fun e w' => e = .returned (.bool true) ∧ w = w')
   (h2 : ∀ w, Calls Try.prog 101 #[.float .f64 off, .float .f64 off, .float .f64 4427486594234968593] w fun e w' => e = .returned (.bool true) ∧ w = w') :
    Calls Try.prog 92 #[.pointer (some ⟨m, 0, none⟩), .iface 60 (.pointer (some ⟨n, 0, none⟩))] w fun e w' => e = .returned (.bool true) ∧ ∃ k, w' = w.drewN k := by
  obtain ⟨c0, c1, -⟩ := hm.cells
  obtain ⟨d0, d1, -⟩ := hn.cells
  have hta : ∀ (v : Value) (w : World), (Instr.typeAssert (.iface 60 v) 41 60 true).run Try.prog w = .ok (.tuple #[v, .bool true]) w := fun v w => run_assert_same _ _ 88 v Try.underlying60 w
  clear hm hn
  go_enter Try.func92, Try.ntmps92
  go_wp2
  go_quiet ((go_at_call 101; first | (with_reducible exact quiet_of_eq (h1 _)) | (with_reducible exact quiet_of_eq (h2 _))))
  go_wp2
  go_ret
  exact ⟨rfl, nq, rfl⟩

set_option maxRecDepth 100000 in
set_option maxHeartbeats 400000 in
theorem eqLin_any (m n g off mult mn mx mult' mn' mx' : Nat) (w : World) (hm : Five 89 w m g off mult mn mx) (hn : Five 89 w n g off mult' mn' mx')
   (h1 : ∀ w, Calls Try.prog 101 #[.float .f64 g, .float .f64 g, .float .f64 4427486594234968593] w fun e w' => e = .returned (.bool true) ∧ w = w')
   (h2 : ∀ w, Calls Try.prog 101 #[.float .f64 off, .float .f64 off, .float .f64 4427486594234968593] w fun e w' => e = .returned (.bool true) ∧ w = w') :
    Calls Try.prog 104 #[.pointer (some ⟨m, 0, none⟩), .iface 63 (.pointer (some ⟨n, 0, none⟩))] w fun e w' => e = .returned (.bool true) ∧ ∃ k, w' = w.drewN k := by
  obtain ⟨c0, c1, -⟩ := hm.cells
  obtain ⟨d0, d1, -⟩ := hn.cells
  have hta : ∀ (v : Value) (w : World), (Instr.typeAssert (.iface 63 v) 41 63 true).run Try.prog w = .ok (.tuple #[v, .bool true]) w := fun v w => run_assert_same _ _ 89 v Try.underlying63 w
  clear hm hn
  go_enter Try.func104, Try.ntmps104
  go_wp2
  go_quiet ((go_at_call 101; first | (with_reducible exact quiet_of_eq (h1 _)) | (with_reducible exact quiet_of_eq (h2 _))))
  go_wp2
  go_ret
  exact ⟨rfl, nq, rfl⟩

set_option maxRecDepth 100000 in
set_option maxHeartbeats 400000 in
theorem eqCub_any (m n g off mult mn mx mult' mn' mx' : Nat) (w : World) (hm : Five 90 w m g off mult mn mx) (hn : Five 90 w n g off mult' mn' mx')
   (h1 : ∀ w, Calls Try.prog 101 #[.float .f64 g, .float .f64 g, .float .f64 4427486594234968593] w fun e w' => e = .returned (.bool true) ∧ w = w')
   (h2 : ∀ w, Calls Try.prog 101 #[.float .f64 off, .float .f64 off, .float .f64 4427486594234968593] w fun e w' => e = .returned (.bool true) ∧ w = w') :
    Calls Try.prog 119 #[.pointer (some ⟨m, 0, none⟩), .iface 66 (.pointer (some ⟨n, 0, none⟩))] w fun e w' => e = .returned (.bool true) ∧ ∃ k, w' = w.drewN k := by
  obtain ⟨c0, c1, -⟩ := hm.cells
  obtain ⟨d0, d1, -⟩ := hn.cells
  have hta : ∀ (v : Value) (w : World), (Instr.typeAssert (.iface 66 v) 41 66 true).run Try.prog w = .ok (.tuple #[v, .bool true]) w := fun v w => run_assert_same _ _ 90 v Try.underlying66 w
  clear hm hn
  go_enter Try.func119, Try.ntmps119
  go_wp2
  go_quiet ((go_at_call 101; first | (with_reducible exact quiet_of_eq (h1 _)) | (with_reducible exact quiet_of_eq (h2 _))))
  go_wp2
  go_ret
  exact ⟨rfl, nq, rfl⟩

/-- A mapping is made of what is read; the slice at p is read to its end. -/
def DecMap (tP t : TypeId) (g off mult mn mx p : Nat) (w : World) (e : Ending) (w' : World) : Prop :=
  ∃ n ao c, e = .returned (.tuple #[.iface tP (.pointer (some ⟨n, 0, none⟩)), .nilIface]) ∧ w.heap.size ≤ n ∧ Five t w' n g off mult mn mx ∧ w'.heap[p]? = some (.cells #[.slice ao 0 c] 36 (0, 0)) ∧ Fr (fun k => k = p) w w'

set_option maxRecDepth 100000 in
set_option maxHeartbeats 800000 in
theorem decLog_any (p q o c g off mult mn mx : Nat) (hg : g < 18446744073709551616) (ho : off < 18446744073709551616) (hc : 16 ≤ c) (hpq : q ≠ p) (w : World) (h1 : Has8 w q o g) (h2 : Has8 w q (o + 8) off)
    (hp : w.heap[p]? = some (.cells #[.slice (some ⟨q, o, none⟩) 16 c] 36 (0, 0))) (hf : newLogF g off = some (mult, mn, mx)) :
    Calls Try.prog 16 #[.pointer (some ⟨p, 0, none⟩), .agg #[.int .u8 2]] w fun e w' => DecMap 60 88 g off mult mn mx p w e w' := by
  have HN := fun w => newLog_any g off mult mn mx w hf
  have HT := fun w h1 h2 hp => decTwo_any p q o c g off hg ho hc hpq w h1 h2 hp
  have H1 := Lib.hid h1
  have H2 := Lib.hid h2
  have HP := Lib.hid hp
  clear hf h1 h2 hp hg ho hc
  go_enter Try.func16, Try.ntmps16
  go_wp2_with (first | (go_at_call 24; (with_reducible refine (flagLog_any _).mono ?_); rintro e w1 ⟨rfl, hb1⟩) | (go_at_call 27; (with_reducible refine (flagLin_any _).mono ?_); rintro e w2 ⟨rfl, hb2⟩) | (go_at_call 29; (with_reducible refine (flagCub_any _).mono ?_); rintro e w3 ⟨rfl, hb3⟩))
  have hq : q < w.heap.size := World.block_lt_of_cell? w _ (H1.out 0 (by omega))
  have hB : Below w.heap.size w w1 := ((Below.refl _ w).alloc (Nat.le_refl _) _).trans (hb1.mono (by simp))
  have hzl := hB.size
  have T := HT w1 (H1.out.other (Fr.of_below hB) (by omega)) (H2.out.other (Fr.of_below hB) (by omega)) (below_heap hB HP.out)
  have HBL := Lib.hid hB
  clear HT hB hb1
  refine T.mono ?_
  clear T
  rintro e w5 ⟨ao, rfl, hp5, hf5⟩
  have HF5 := Lib.hid hf5
  have HP5 := Lib.hid hp5
  have hz5 := hf5.size
  clear hf5 hp5
  go_wp2_with (go_at_call 26; (with_reducible refine (HN _).mono ?_); rintro e w6 ⟨n, rfl, hn, hh, hb6⟩; have HH := Lib.hid hh; have HB6 := Lib.hid hb6; clear hh hb6)
  go_ret2
  refine ⟨n, ao, c - 16, rfl, by omega, HH.out, below_heap HB6.out HP5.out, ?_⟩
  exact (((Fr.of_below HBL.out).mono (U := fun k => k = p) (fun i hi h => by omega)).trans HF5.out (fun _ _ h => h) (fun _ _ h => h)).trans (Fr.of_below HB6.out) (fun _ _ h => h) (fun i hi h => by omega)

set_option maxRecDepth 100000 in
set_option maxHeartbeats 800000 in
theorem decLin_any (p q o c g off mult mn mx : Nat) (hg : g < 18446744073709551616) (ho : off < 18446744073709551616) (hc : 16 ≤ c) (hpq : q ≠ p) (w : World) (h1 : Has8 w q o g) (h2 : Has8 w q (o + 8) off)
    (hp : w.heap[p]? = some (.cells #[.slice (some ⟨q, o, none⟩) 16 c] 36 (0, 0))) (hf : newLinF g off = some (mult, mn, mx)) :
    Calls Try.prog 16 #[.pointer (some ⟨p, 0, none⟩), .agg #[.int .u8 6]] w fun e w' => DecMap 63 89 g off mult mn mx p w e w' := by
  have HN := fun w => newLin_any g off mult mn mx w hf
  have HT := fun w h1 h2 hp => decTwo_any p q o c g off hg ho hc hpq w h1 h2 hp
  have H1 := Lib.hid h1
  have H2 := Lib.hid h2
  have HP := Lib.hid hp
  clear hf h1 h2 hp hg ho hc
  go_enter Try.func16, Try.ntmps16
  go_wp2_with (first | (go_at_call 24; (with_reducible refine (flagLog_any _).mono ?_); rintro e w1 ⟨rfl, hb1⟩) | (go_at_call 27; (with_reducible refine (flagLin_any _).mono ?_); rintro e w2 ⟨rfl, hb2⟩) | (go_at_call 29; (with_reducible refine (flagCub_any _).mono ?_); rintro e w3 ⟨rfl, hb3⟩))
  have hq : q < w.heap.size := World.block_lt_of_cell? w _ (H1.out 0 (by omega))
  have hB : Below w.heap.size w w2 := (((Below.refl _ w).alloc (Nat.le_refl _) _).trans (hb1.mono (by simp))).trans (hb2.mono (by have := hb1.size; simp at this; omega))
  have hzl := hB.size
  have T := HT w2 (H1.out.other (Fr.of_below hB) (by omega)) (H2.out.other (Fr.of_below hB) (by omega)) (below_heap hB HP.out)
  have HBL := Lib.hid hB
  clear HT hB hb1 hb2
  refine T.mono ?_
  clear T
  rintro e w5 ⟨ao, rfl, hp5, hf5⟩
  have HF5 := Lib.hid hf5
  have HP5 := Lib.hid hp5
  have hz5 := hf5.size
  clear hf5 hp5
  go_wp2_with (go_at_call 28; (with_reducible refine (HN _).mono ?_); rintro e w6 ⟨n, rfl, hn, hh, hb6⟩; have HH := Lib.hid hh; have HB6 := Lib.hid hb6; clear hh hb6)
  go_ret2
  refine ⟨n, ao, c - 16, rfl, by omega, HH.out, below_heap HB6.out HP5.out, ?_⟩
  exact (((Fr.of_below HBL.out).mono (U := fun k => k = p) (fun i hi h => by omega)).trans HF5.out (fun _ _ h => h) (fun _ _ h => h)).trans (Fr.of_below HB6.out) (fun _ _ h => h) (fun i hi h => by omega)

set_option maxRecDepth 100000 in
set_option maxHeartbeats 800000 in
theorem decCub_any (p q o c g off mult mn mx : Nat) (hg : g < 18446744073709551616) (ho : off < 18446744073709551616) (hc : 16 ≤ c) (hpq : q ≠ p) (w : World) (h1 : Has8 w q o g) (h2 : Has8 w q (o + 8) off)
    (hp : w.heap[p]? = some (.cells #[.slice (some ⟨q, o, none⟩) 16 c] 36 (0, 0))) (hf : newCubF g off = some (mult, mn, mx)) :
    Calls Try.prog 16 #[.pointer (some ⟨p, 0, none⟩), .agg #[.int .u8 14]] w fun e w' => DecMap 66 90 g off mult mn mx p w e w' := by
  have HN := fun w => newCub_any g off mult mn mx w hf
  have HT := fun w h1 h2 hp => decTwo_any p q o c g off hg ho hc hpq w h1 h2 hp
  have H1 := Lib.hid h1
  have H2 := Lib.hid h2
  have HP := Lib.hid hp
  clear hf h1 h2 hp hg ho hc
  go_enter Try.func16, Try.ntmps16
  go_wp2_with (first | (go_at_call 24; (with_reducible refine (flagLog_any _).mono ?_); rintro e w1 ⟨rfl, hb1⟩) | (go_at_call 27; (with_reducible refine (flagLin_any _).mono ?_); rintro e w2 ⟨rfl, hb2⟩) | (go_at_call 29; (with_reducible refine (flagCub_any _).mono ?_); rintro e w3 ⟨rfl, hb3⟩))
  have hq : q < w.heap.size := World.block_lt_of_cell? w _ (H1.out 0 (by omega))
  have hB : Below w.heap.size w w3 := ((((Below.refl _ w).alloc (Nat.le_refl _) _).trans (hb1.mono (by simp))).trans (hb2.mono (by have := hb1.size; simp at this; omega))).trans (hb3.mono (by have := hb1.size; have := hb2.size; simp at *; omega))
  have hzl := hB.size
  have T := HT w3 (H1.out.other (Fr.of_below hB) (by omega)) (H2.out.other (Fr.of_below hB) (by omega)) (below_heap hB HP.out)
  have HBL := Lib.hid hB
  clear HT hB hb1 hb2 hb3
  refine T.mono ?_
  clear T
  rintro e w5 ⟨ao, rfl, hp5, hf5⟩
  have HF5 := Lib.hid hf5
  have HP5 := Lib.hid hp5
  have hz5 := hf5.size
  clear hf5 hp5
  go_wp2_with (go_at_call 30; (with_reducible refine (HN _).mono ?_); rintro e w6 ⟨n, rfl, hn, hh, hb6⟩; have HH := Lib.hid hh; have HB6 := Lib.hid hb6; clear hh hb6)
  go_ret2
  refine ⟨n, ao, c - 16, rfl, by omega, HH.out, below_heap HB6.out HP5.out, ?_⟩
  exact (((Fr.of_below HBL.out).mono (U := fun k => k = p) (fun i hi h => by omega)).trans HF5.out (fun _ _ h => h) (fun _ _ h => h)).trans (Fr.of_below HB6.out) (fun _ _ h => h) (fun i hi h => by omega)
end Go.Proofs.Ytgommnmmifgbgaa
