import Derived.Test.Qxb6001398aPlainDec
namespace Go.Proofs.Qxb6001398a
open Go.RowKit
open Plain

theorem plainDecimal_none (s : ByteArray) (p : Int) (w : World) (hs : s.size ≤ 1048576) (hp1 : -2147483648 ≤ p) (hp2 : p ≤ 2147483647) (h : pdB (bodyOf s.data.toList) p = none) :
    Calls Try.prog 29 #[.string s, .int .i32 p] w fun e w' => e = .returned (.tuple #[.agg #[.bool false, .string ⟨#[]⟩, .string ⟨#[]⟩, .int .i64 0], .bool false]) ∧ Below w.heap.size w w' := by
  refine (plainDecimal_any s p w hs hp1 hp2).mono ?_
  rintro e w1 ⟨v, rfl, hres, hb⟩
  rcases hres with ⟨_, rfl⟩ | ⟨wh, fr, d, h2, _⟩
  · exact ⟨rfl, hb⟩
  · rw [h] at h2; cases h2

theorem plainDecimal_some (s : ByteArray) (p : Int) (w : World) (wh fr : List UInt8) (hs : s.size ≤ 1048576) (hp1 : -2147483648 ≤ p) (hp2 : p ≤ 2147483647) (h : pdB (bodyOf s.data.toList) p = some (wh, fr)) :
    Calls Try.prog 29 #[.string s, .int .i32 p] w fun e w' => ∃ d : Int, e = .returned (.tuple #[.agg #[.bool (negOf s.data.toList), .string ⟨wh.toArray⟩, .string ⟨fr.toArray⟩, .int .i64 d], .bool true]) ∧ Below w.heap.size w w' := by
  refine (plainDecimal_any s p w hs hp1 hp2).mono ?_
  rintro e w1 ⟨v, rfl, hres, hb⟩
  rcases hres with ⟨h2, _⟩ | ⟨wh2, fr2, d, h2, rfl⟩
  · rw [h] at h2; cases h2
  · rw [h] at h2; cases h2; exact ⟨d, rfl, hb⟩

theorem results_tmp5 {fn : Func} {t u v x y : Tmp} (h : fn.results = #[.tmp t, .tmp u, .tmp v, .tmp x, .tmp y]) (tmps : Array Value) (P : Program) (w : World) :
    (results fn tmps).run P w = .ok (.tuple #[tmps.getD t undef, tmps.getD u undef, tmps.getD v undef, tmps.getD x undef, tmps.getD y undef]) w := by
  simp [results, h, go_sem]

set_option maxHeartbeats 800000 in
theorem ZZplain_none (s : ByteArray) (p : Int) (w : World) (hs : s.size ≤ 1048576) (hp1 : -2147483648 ≤ p) (hp2 : p ≤ 2147483647) (h : pdB (bodyOf s.data.toList) p = none) :
    Calls Try.prog 23 #[.string s, .int .i32 p] w fun e w' => e = .returned (.tuple #[.bool false, .string ⟨#[]⟩, .string ⟨#[]⟩, .int .i64 0, .bool false]) ∧ Below w.heap.size w w' := by
  have H := hide h
  clear h
  go_enter Try.func23, Try.ntmps23
  go_wp2_with fail
  refine (plainDecimal_none s p w hs hp1 hp2 H.out).mono ?_
  rintro e w1 ⟨rfl, hb⟩
  go_wp2_with fail
  go_quiet (fail)
  go_wp2
  exact bodyPost_ret (results_tmp5 rfl _ _ _) rfl ⟨rfl, below_drewN ((hb.alloc hb.size _)) _⟩

set_option maxHeartbeats 800000 in
theorem ZZplain_some (s : ByteArray) (p : Int) (w : World) (wh fr : List UInt8) (hs : s.size ≤ 1048576) (hp1 : -2147483648 ≤ p) (hp2 : p ≤ 2147483647) (h : pdB (bodyOf s.data.toList) p = some (wh, fr)) :
    Calls Try.prog 23 #[.string s, .int .i32 p] w fun e w' => ∃ d : Int, e = .returned (.tuple #[.bool (negOf s.data.toList), .string ⟨wh.toArray⟩, .string ⟨fr.toArray⟩, .int .i64 d, .bool true]) ∧ Below w.heap.size w w' := by
  have H := hide h
  clear h
  go_enter Try.func23, Try.ntmps23
  go_wp2_with fail
  refine (plainDecimal_some s p w wh fr hs hp1 hp2 H.out).mono ?_
  rintro e w1 ⟨d, rfl, hb⟩
  go_wp2_with fail
  go_quiet (fail)
  go_wp2
  exact bodyPost_ret (results_tmp5 rfl _ _ _) rfl ⟨d, rfl, below_drewN ((hb.alloc hb.size _)) _⟩
end Go.Proofs.Qxb6001398a
