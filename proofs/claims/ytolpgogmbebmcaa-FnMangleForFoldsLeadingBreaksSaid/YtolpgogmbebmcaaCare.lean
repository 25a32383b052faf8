/-
  The contract of stmtCaresAboutScope: a statement of kind k cares exactly when k is at least 20; conditions: none.
-/
import Derived.Test.YtolpgogmbebmcaaMake
import Derived.Test.YtolpgogmbebmcaaNorm
namespace Go.Proofs.Ytolpgogmbebmcaa
open Go.RowKit

/-- An assertion to a pointer type, with ok. -/
theorem run_assert_ptr {P : Program} (w : World) (T xT A e : TypeId) (v : Value) (hA : P.underlying A = some (.pointer e)) (hz : (zeroValue A).run P w = .ok (.pointer none) w) :
    (Instr.typeAssert (.iface T v) xT A true).run P w = .ok (if T = A then .tuple #[v, .bool true] else .tuple #[.pointer none, .bool false]) w := by
  by_cases h : T = A
  · subst h
    simp [Instr.typeAssert, run_underlying hA]
  · simp [Instr.typeAssert, run_underlying hA, hz, h]
theorem run_assert_nil {P : Program} (w : World) (xT A e : TypeId) (hA : P.underlying A = some (.pointer e)) (hz : (zeroValue A).run P w = .ok (.pointer none) w) :
    (Instr.typeAssert .nilIface xT A true).run P w = .ok (.tuple #[.pointer none, .bool false]) w := by
  simp [Instr.typeAssert, run_underlying hA, hz]
theorem ta26 (T : TypeId) (v : Value) (w : World) : (Instr.typeAssert (.iface T v) 28 26 true).run Try.prog w = .ok (if T = 26 then .tuple #[v, .bool true] else .tuple #[.pointer none, .bool false]) w := run_assert_ptr (P := Try.prog) w T 28 26 _ v Try.underlying26 (Try.zeroValue26 w)
theorem tn26 (w : World) : (Instr.typeAssert .nilIface 28 26 true).run Try.prog w = .ok (.tuple #[.pointer none, .bool false]) w := run_assert_nil (P := Try.prog) w 28 26 _ Try.underlying26 (Try.zeroValue26 w)
theorem ta76 (T : TypeId) (v : Value) (w : World) : (Instr.typeAssert (.iface T v) 28 76 true).run Try.prog w = .ok (if T = 76 then .tuple #[v, .bool true] else .tuple #[.pointer none, .bool false]) w := run_assert_ptr (P := Try.prog) w T 28 76 _ v Try.underlying76 (Try.zeroValue76 w)
theorem tn76 (w : World) : (Instr.typeAssert .nilIface 28 76 true).run Try.prog w = .ok (.tuple #[.pointer none, .bool false]) w := run_assert_nil (P := Try.prog) w 28 76 _ Try.underlying76 (Try.zeroValue76 w)
theorem ta79 (T : TypeId) (v : Value) (w : World) : (Instr.typeAssert (.iface T v) 28 79 true).run Try.prog w = .ok (if T = 79 then .tuple #[v, .bool true] else .tuple #[.pointer none, .bool false]) w := run_assert_ptr (P := Try.prog) w T 28 79 _ v Try.underlying79 (Try.zeroValue79 w)
theorem tn79 (w : World) : (Instr.typeAssert .nilIface 28 79 true).run Try.prog w = .ok (.tuple #[.pointer none, .bool false]) w := run_assert_nil (P := Try.prog) w 28 79 _ Try.underlying79 (Try.zeroValue79 w)
theorem ta81 (T : TypeId) (v : Value) (w : World) : (Instr.typeAssert (.iface T v) 28 81 true).run Try.prog w = .ok (if T = 81 then .tuple #[v, .bool true] else .tuple #[.pointer none, .bool false]) w := run_assert_ptr (P := Try.prog) w T 28 81 _ v Try.underlying81 (Try.zeroValue81 w)
theorem tn81 (w : World) : (Instr.typeAssert .nilIface 28 81 true).run Try.prog w = .ok (.tuple #[.pointer none, .bool false]) w := run_assert_nil (P := Try.prog) w 28 81 _ Try.underlying81 (Try.zeroValue81 w)
theorem ta59 (T : TypeId) (v : Value) (w : World) : (Instr.typeAssert (.iface T v) 28 59 true).run Try.prog w = .ok (if T = 59 then .tuple #[v, .bool true] else .tuple #[.pointer none, .bool false]) w := run_assert_ptr (P := Try.prog) w T 28 59 _ v Try.underlying59 (Try.zeroValue59 w)
theorem tn59 (w : World) : (Instr.typeAssert .nilIface 28 59 true).run Try.prog w = .ok (.tuple #[.pointer none, .bool false]) w := run_assert_nil (P := Try.prog) w 28 59 _ Try.underlying59 (Try.zeroValue59 w)
theorem ta45 (T : TypeId) (v : Value) (w : World) : (Instr.typeAssert (.iface T v) 28 45 true).run Try.prog w = .ok (if T = 45 then .tuple #[v, .bool true] else .tuple #[.pointer none, .bool false]) w := run_assert_ptr (P := Try.prog) w T 28 45 _ v Try.underlying45 (Try.zeroValue45 w)
theorem tn45 (w : World) : (Instr.typeAssert .nilIface 28 45 true).run Try.prog w = .ok (.tuple #[.pointer none, .bool false]) w := run_assert_nil (P := Try.prog) w 28 45 _ Try.underlying45 (Try.zeroValue45 w)
theorem ta84 (T : TypeId) (v : Value) (w : World) : (Instr.typeAssert (.iface T v) 28 84 true).run Try.prog w = .ok (if T = 84 then .tuple #[v, .bool true] else .tuple #[.pointer none, .bool false]) w := run_assert_ptr (P := Try.prog) w T 28 84 _ v Try.underlying84 (Try.zeroValue84 w)
theorem tn84 (w : World) : (Instr.typeAssert .nilIface 28 84 true).run Try.prog w = .ok (.tuple #[.pointer none, .bool false]) w := run_assert_nil (P := Try.prog) w 28 84 _ Try.underlying84 (Try.zeroValue84 w)
theorem ta87 (T : TypeId) (v : Value) (w : World) : (Instr.typeAssert (.iface T v) 28 87 true).run Try.prog w = .ok (if T = 87 then .tuple #[v, .bool true] else .tuple #[.pointer none, .bool false]) w := run_assert_ptr (P := Try.prog) w T 28 87 _ v Try.underlying87 (Try.zeroValue87 w)
theorem tn87 (w : World) : (Instr.typeAssert .nilIface 28 87 true).run Try.prog w = .ok (.tuple #[.pointer none, .bool false]) w := run_assert_nil (P := Try.prog) w 28 87 _ Try.underlying87 (Try.zeroValue87 w)
theorem ta92 (T : TypeId) (v : Value) (w : World) : (Instr.typeAssert (.iface T v) 28 92 true).run Try.prog w = .ok (if T = 92 then .tuple #[v, .bool true] else .tuple #[.pointer none, .bool false]) w := run_assert_ptr (P := Try.prog) w T 28 92 _ v Try.underlying92 (Try.zeroValue92 w)
theorem tn92 (w : World) : (Instr.typeAssert .nilIface 28 92 true).run Try.prog w = .ok (.tuple #[.pointer none, .bool false]) w := run_assert_nil (P := Try.prog) w 28 92 _ Try.underlying92 (Try.zeroValue92 w)
theorem ta95 (T : TypeId) (v : Value) (w : World) : (Instr.typeAssert (.iface T v) 28 95 true).run Try.prog w = .ok (if T = 95 then .tuple #[v, .bool true] else .tuple #[.pointer none, .bool false]) w := run_assert_ptr (P := Try.prog) w T 28 95 _ v Try.underlying95 (Try.zeroValue95 w)
theorem tn95 (w : World) : (Instr.typeAssert .nilIface 28 95 true).run Try.prog w = .ok (.tuple #[.pointer none, .bool false]) w := run_assert_nil (P := Try.prog) w 28 95 _ Try.underlying95 (Try.zeroValue95 w)
theorem ta98 (T : TypeId) (v : Value) (w : World) : (Instr.typeAssert (.iface T v) 28 98 true).run Try.prog w = .ok (if T = 98 then .tuple #[v, .bool true] else .tuple #[.pointer none, .bool false]) w := run_assert_ptr (P := Try.prog) w T 28 98 _ v Try.underlying98 (Try.zeroValue98 w)
theorem tn98 (w : World) : (Instr.typeAssert .nilIface 28 98 true).run Try.prog w = .ok (.tuple #[.pointer none, .bool false]) w := run_assert_nil (P := Try.prog) w 28 98 _ Try.underlying98 (Try.zeroValue98 w)
theorem ta101 (T : TypeId) (v : Value) (w : World) : (Instr.typeAssert (.iface T v) 28 101 true).run Try.prog w = .ok (if T = 101 then .tuple #[v, .bool true] else .tuple #[.pointer none, .bool false]) w := run_assert_ptr (P := Try.prog) w T 28 101 _ v Try.underlying101 (Try.zeroValue101 w)
theorem tn101 (w : World) : (Instr.typeAssert .nilIface 28 101 true).run Try.prog w = .ok (.tuple #[.pointer none, .bool false]) w := run_assert_nil (P := Try.prog) w 28 101 _ Try.underlying101 (Try.zeroValue101 w)
theorem ta106 (T : TypeId) (v : Value) (w : World) : (Instr.typeAssert (.iface T v) 28 106 true).run Try.prog w = .ok (if T = 106 then .tuple #[v, .bool true] else .tuple #[.pointer none, .bool false]) w := run_assert_ptr (P := Try.prog) w T 28 106 _ v Try.underlying106 (Try.zeroValue106 w)
theorem tn106 (w : World) : (Instr.typeAssert .nilIface 28 106 true).run Try.prog w = .ok (.tuple #[.pointer none, .bool false]) w := run_assert_nil (P := Try.prog) w 28 106 _ Try.underlying106 (Try.zeroValue106 w)
theorem ta110 (T : TypeId) (v : Value) (w : World) : (Instr.typeAssert (.iface T v) 28 110 true).run Try.prog w = .ok (if T = 110 then .tuple #[v, .bool true] else .tuple #[.pointer none, .bool false]) w := run_assert_ptr (P := Try.prog) w T 28 110 _ v Try.underlying110 (Try.zeroValue110 w)
theorem tn110 (w : World) : (Instr.typeAssert .nilIface 28 110 true).run Try.prog w = .ok (.tuple #[.pointer none, .bool false]) w := run_assert_nil (P := Try.prog) w 28 110 _ Try.underlying110 (Try.zeroValue110 w)
theorem ta113 (T : TypeId) (v : Value) (w : World) : (Instr.typeAssert (.iface T v) 28 113 true).run Try.prog w = .ok (if T = 113 then .tuple #[v, .bool true] else .tuple #[.pointer none, .bool false]) w := run_assert_ptr (P := Try.prog) w T 28 113 _ v Try.underlying113 (Try.zeroValue113 w)
theorem tn113 (w : World) : (Instr.typeAssert .nilIface 28 113 true).run Try.prog w = .ok (.tuple #[.pointer none, .bool false]) w := run_assert_nil (P := Try.prog) w 28 113 _ Try.underlying113 (Try.zeroValue113 w)
theorem ta60 (T : TypeId) (v : Value) (w : World) : (Instr.typeAssert (.iface T v) 28 60 true).run Try.prog w = .ok (if T = 60 then .tuple #[v, .bool true] else .tuple #[.pointer none, .bool false]) w := run_assert_ptr (P := Try.prog) w T 28 60 _ v Try.underlying60 (Try.zeroValue60 w)
theorem tn60 (w : World) : (Instr.typeAssert .nilIface 28 60 true).run Try.prog w = .ok (.tuple #[.pointer none, .bool false]) w := run_assert_nil (P := Try.prog) w 28 60 _ Try.underlying60 (Try.zeroValue60 w)
theorem ta116 (T : TypeId) (v : Value) (w : World) : (Instr.typeAssert (.iface T v) 28 116 true).run Try.prog w = .ok (if T = 116 then .tuple #[v, .bool true] else .tuple #[.pointer none, .bool false]) w := run_assert_ptr (P := Try.prog) w T 28 116 _ v Try.underlying116 (Try.zeroValue116 w)
theorem tn116 (w : World) : (Instr.typeAssert .nilIface 28 116 true).run Try.prog w = .ok (.tuple #[.pointer none, .bool false]) w := run_assert_nil (P := Try.prog) w 28 116 _ Try.underlying116 (Try.zeroValue116 w)
theorem ta118 (T : TypeId) (v : Value) (w : World) : (Instr.typeAssert (.iface T v) 28 118 true).run Try.prog w = .ok (if T = 118 then .tuple #[v, .bool true] else .tuple #[.pointer none, .bool false]) w := run_assert_ptr (P := Try.prog) w T 28 118 _ v Try.underlying118 (Try.zeroValue118 w)
theorem tn118 (w : World) : (Instr.typeAssert .nilIface 28 118 true).run Try.prog w = .ok (.tuple #[.pointer none, .bool false]) w := run_assert_nil (P := Try.prog) w 28 118 _ Try.underlying118 (Try.zeroValue118 w)
theorem ta122 (T : TypeId) (v : Value) (w : World) : (Instr.typeAssert (.iface T v) 28 122 true).run Try.prog w = .ok (if T = 122 then .tuple #[v, .bool true] else .tuple #[.pointer none, .bool false]) w := run_assert_ptr (P := Try.prog) w T 28 122 _ v Try.underlying122 (Try.zeroValue122 w)
theorem tn122 (w : World) : (Instr.typeAssert .nilIface 28 122 true).run Try.prog w = .ok (.tuple #[.pointer none, .bool false]) w := run_assert_nil (P := Try.prog) w 28 122 _ Try.underlying122 (Try.zeroValue122 w)
theorem ta129 (T : TypeId) (v : Value) (w : World) : (Instr.typeAssert (.iface T v) 28 129 true).run Try.prog w = .ok (if T = 129 then .tuple #[v, .bool true] else .tuple #[.pointer none, .bool false]) w := run_assert_ptr (P := Try.prog) w T 28 129 _ v Try.underlying129 (Try.zeroValue129 w)
theorem tn129 (w : World) : (Instr.typeAssert .nilIface 28 129 true).run Try.prog w = .ok (.tuple #[.pointer none, .bool false]) w := run_assert_nil (P := Try.prog) w 28 129 _ Try.underlying129 (Try.zeroValue129 w)
set_option maxHeartbeats 1000000 in
set_option maxRecDepth 100000 in
theorem care_t26 (b : Nat) (loc : Int) (w : World) : Calls Try.prog 29 #[.agg #[.iface 26 (.pointer (some ⟨b, 0, none⟩)), .int .i32 loc]] w fun e w' => e = .returned (.bool false) ∧ Below w.heap.size w w' := by
  have f26 := ta26
  have f76 := ta76
  have f79 := ta79
  have f81 := ta81
  have f59 := ta59
  have f45 := ta45
  have f84 := ta84
  have f87 := ta87
  have f92 := ta92
  have f95 := ta95
  have f98 := ta98
  have f101 := ta101
  have f106 := ta106
  have f110 := ta110
  have f113 := ta113
  have f60 := ta60
  have f116 := ta116
  have f118 := ta118
  have f122 := ta122
  have f129 := ta129
  go_enter Try.func29, Try.ntmps29
  go_wp2
  go_ret
  exact ⟨rfl, (Below.refl _ _).alloc (Nat.le_refl _) _⟩
set_option maxHeartbeats 1000000 in
set_option maxRecDepth 100000 in
theorem care_t76 (b : Nat) (loc : Int) (w : World) : Calls Try.prog 29 #[.agg #[.iface 76 (.pointer (some ⟨b, 0, none⟩)), .int .i32 loc]] w fun e w' => e = .returned (.bool false) ∧ Below w.heap.size w w' := by
  have f26 := ta26
  have f76 := ta76
  have f79 := ta79
  have f81 := ta81
  have f59 := ta59
  have f45 := ta45
  have f84 := ta84
  have f87 := ta87
  have f92 := ta92
  have f95 := ta95
  have f98 := ta98
  have f101 := ta101
  have f106 := ta106
  have f110 := ta110
  have f113 := ta113
  have f60 := ta60
  have f116 := ta116
  have f118 := ta118
  have f122 := ta122
  have f129 := ta129
  go_enter Try.func29, Try.ntmps29
  go_wp2
  go_ret
  exact ⟨rfl, (Below.refl _ _).alloc (Nat.le_refl _) _⟩
set_option maxHeartbeats 1000000 in
set_option maxRecDepth 100000 in
theorem care_t79 (b : Nat) (loc : Int) (w : World) : Calls Try.prog 29 #[.agg #[.iface 79 (.pointer (some ⟨b, 0, none⟩)), .int .i32 loc]] w fun e w' => e = .returned (.bool false) ∧ Below w.heap.size w w' := by
  have f26 := ta26
  have f76 := ta76
  have f79 := ta79
  have f81 := ta81
  have f59 := ta59
  have f45 := ta45
  have f84 := ta84
  have f87 := ta87
  have f92 := ta92
  have f95 := ta95
  have f98 := ta98
  have f101 := ta101
  have f106 := ta106
  have f110 := ta110
  have f113 := ta113
  have f60 := ta60
  have f116 := ta116
  have f118 := ta118
  have f122 := ta122
  have f129 := ta129
  go_enter Try.func29, Try.ntmps29
  go_wp2
  go_ret
  exact ⟨rfl, (Below.refl _ _).alloc (Nat.le_refl _) _⟩
set_option maxHeartbeats 1000000 in
set_option maxRecDepth 100000 in
theorem care_t81 (b : Nat) (loc : Int) (w : World) : Calls Try.prog 29 #[.agg #[.iface 81 (.pointer (some ⟨b, 0, none⟩)), .int .i32 loc]] w fun e w' => e = .returned (.bool false) ∧ Below w.heap.size w w' := by
  have f26 := ta26
  have f76 := ta76
  have f79 := ta79
  have f81 := ta81
  have f59 := ta59
  have f45 := ta45
  have f84 := ta84
  have f87 := ta87
  have f92 := ta92
  have f95 := ta95
  have f98 := ta98
  have f101 := ta101
  have f106 := ta106
  have f110 := ta110
  have f113 := ta113
  have f60 := ta60
  have f116 := ta116
  have f118 := ta118
  have f122 := ta122
  have f129 := ta129
  go_enter Try.func29, Try.ntmps29
  go_wp2
  go_ret
  exact ⟨rfl, (Below.refl _ _).alloc (Nat.le_refl _) _⟩
set_option maxHeartbeats 1000000 in
set_option maxRecDepth 100000 in
theorem care_t59 (b : Nat) (loc : Int) (w : World) : Calls Try.prog 29 #[.agg #[.iface 59 (.pointer (some ⟨b, 0, none⟩)), .int .i32 loc]] w fun e w' => e = .returned (.bool false) ∧ Below w.heap.size w w' := by
  have f26 := ta26
  have f76 := ta76
  have f79 := ta79
  have f81 := ta81
  have f59 := ta59
  have f45 := ta45
  have f84 := ta84
  have f87 := ta87
  have f92 := ta92
  have f95 := ta95
  have f98 := ta98
  have f101 := ta101
  have f106 := ta106
  have f110 := ta110
  have f113 := ta113
  have f60 := ta60
  have f116 := ta116
  have f118 := ta118
  have f122 := ta122
  have f129 := ta129
  go_enter Try.func29, Try.ntmps29
  go_wp2
  go_ret
  exact ⟨rfl, (Below.refl _ _).alloc (Nat.le_refl _) _⟩
set_option maxHeartbeats 1000000 in
set_option maxRecDepth 100000 in
theorem care_t45 (b : Nat) (loc : Int) (w : World) : Calls Try.prog 29 #[.agg #[.iface 45 (.pointer (some ⟨b, 0, none⟩)), .int .i32 loc]] w fun e w' => e = .returned (.bool false) ∧ Below w.heap.size w w' := by
  have f26 := ta26
  have f76 := ta76
  have f79 := ta79
  have f81 := ta81
  have f59 := ta59
  have f45 := ta45
  have f84 := ta84
  have f87 := ta87
  have f92 := ta92
  have f95 := ta95
  have f98 := ta98
  have f101 := ta101
  have f106 := ta106
  have f110 := ta110
  have f113 := ta113
  have f60 := ta60
  have f116 := ta116
  have f118 := ta118
  have f122 := ta122
  have f129 := ta129
  go_enter Try.func29, Try.ntmps29
  go_wp2
  go_ret
  exact ⟨rfl, (Below.refl _ _).alloc (Nat.le_refl _) _⟩
set_option maxHeartbeats 1000000 in
set_option maxRecDepth 100000 in
theorem care_t84 (b : Nat) (loc : Int) (w : World) : Calls Try.prog 29 #[.agg #[.iface 84 (.pointer (some ⟨b, 0, none⟩)), .int .i32 loc]] w fun e w' => e = .returned (.bool false) ∧ Below w.heap.size w w' := by
  have f26 := ta26
  have f76 := ta76
  have f79 := ta79
  have f81 := ta81
  have f59 := ta59
  have f45 := ta45
  have f84 := ta84
  have f87 := ta87
  have f92 := ta92
  have f95 := ta95
  have f98 := ta98
  have f101 := ta101
  have f106 := ta106
  have f110 := ta110
  have f113 := ta113
  have f60 := ta60
  have f116 := ta116
  have f118 := ta118
  have f122 := ta122
  have f129 := ta129
  go_enter Try.func29, Try.ntmps29
  go_wp2
  go_ret
  exact ⟨rfl, (Below.refl _ _).alloc (Nat.le_refl _) _⟩
set_option maxHeartbeats 1000000 in
set_option maxRecDepth 100000 in
theorem care_t87 (b : Nat) (loc : Int) (w : World) : Calls Try.prog 29 #[.agg #[.iface 87 (.pointer (some ⟨b, 0, none⟩)), .int .i32 loc]] w fun e w' => e = .returned (.bool false) ∧ Below w.heap.size w w' := by
  have f26 := ta26
  have f76 := ta76
  have f79 := ta79
  have f81 := ta81
  have f59 := ta59
  have f45 := ta45
  have f84 := ta84
  have f87 := ta87
  have f92 := ta92
  have f95 := ta95
  have f98 := ta98
  have f101 := ta101
  have f106 := ta106
  have f110 := ta110
  have f113 := ta113
  have f60 := ta60
  have f116 := ta116
  have f118 := ta118
  have f122 := ta122
  have f129 := ta129
  go_enter Try.func29, Try.ntmps29
  go_wp2
  go_ret
  exact ⟨rfl, (Below.refl _ _).alloc (Nat.le_refl _) _⟩
set_option maxHeartbeats 1000000 in
set_option maxRecDepth 100000 in
theorem care_t92 (b : Nat) (loc : Int) (w : World) : Calls Try.prog 29 #[.agg #[.iface 92 (.pointer (some ⟨b, 0, none⟩)), .int .i32 loc]] w fun e w' => e = .returned (.bool false) ∧ Below w.heap.size w w' := by
  have f26 := ta26
  have f76 := ta76
  have f79 := ta79
  have f81 := ta81
  have f59 := ta59
  have f45 := ta45
  have f84 := ta84
  have f87 := ta87
  have f92 := ta92
  have f95 := ta95
  have f98 := ta98
  have f101 := ta101
  have f106 := ta106
  have f110 := ta110
  have f113 := ta113
  have f60 := ta60
  have f116 := ta116
  have f118 := ta118
  have f122 := ta122
  have f129 := ta129
  go_enter Try.func29, Try.ntmps29
  go_wp2
  go_ret
  exact ⟨rfl, (Below.refl _ _).alloc (Nat.le_refl _) _⟩
set_option maxHeartbeats 1000000 in
set_option maxRecDepth 100000 in
theorem care_t95 (b : Nat) (loc : Int) (w : World) : Calls Try.prog 29 #[.agg #[.iface 95 (.pointer (some ⟨b, 0, none⟩)), .int .i32 loc]] w fun e w' => e = .returned (.bool false) ∧ Below w.heap.size w w' := by
  have f26 := ta26
  have f76 := ta76
  have f79 := ta79
  have f81 := ta81
  have f59 := ta59
  have f45 := ta45
  have f84 := ta84
  have f87 := ta87
  have f92 := ta92
  have f95 := ta95
  have f98 := ta98
  have f101 := ta101
  have f106 := ta106
  have f110 := ta110
  have f113 := ta113
  have f60 := ta60
  have f116 := ta116
  have f118 := ta118
  have f122 := ta122
  have f129 := ta129
  go_enter Try.func29, Try.ntmps29
  go_wp2
  go_ret
  exact ⟨rfl, (Below.refl _ _).alloc (Nat.le_refl _) _⟩
set_option maxHeartbeats 1000000 in
set_option maxRecDepth 100000 in
theorem care_t98 (b : Nat) (loc : Int) (w : World) : Calls Try.prog 29 #[.agg #[.iface 98 (.pointer (some ⟨b, 0, none⟩)), .int .i32 loc]] w fun e w' => e = .returned (.bool false) ∧ Below w.heap.size w w' := by
  have f26 := ta26
  have f76 := ta76
  have f79 := ta79
  have f81 := ta81
  have f59 := ta59
  have f45 := ta45
  have f84 := ta84
  have f87 := ta87
  have f92 := ta92
  have f95 := ta95
  have f98 := ta98
  have f101 := ta101
  have f106 := ta106
  have f110 := ta110
  have f113 := ta113
  have f60 := ta60
  have f116 := ta116
  have f118 := ta118
  have f122 := ta122
  have f129 := ta129
  go_enter Try.func29, Try.ntmps29
  go_wp2
  go_ret
  exact ⟨rfl, (Below.refl _ _).alloc (Nat.le_refl _) _⟩
set_option maxHeartbeats 1000000 in
set_option maxRecDepth 100000 in
theorem care_t101 (b : Nat) (loc : Int) (w : World) : Calls Try.prog 29 #[.agg #[.iface 101 (.pointer (some ⟨b, 0, none⟩)), .int .i32 loc]] w fun e w' => e = .returned (.bool false) ∧ Below w.heap.size w w' := by
  have f26 := ta26
  have f76 := ta76
  have f79 := ta79
  have f81 := ta81
  have f59 := ta59
  have f45 := ta45
  have f84 := ta84
  have f87 := ta87
  have f92 := ta92
  have f95 := ta95
  have f98 := ta98
  have f101 := ta101
  have f106 := ta106
  have f110 := ta110
  have f113 := ta113
  have f60 := ta60
  have f116 := ta116
  have f118 := ta118
  have f122 := ta122
  have f129 := ta129
  go_enter Try.func29, Try.ntmps29
  go_wp2
  go_ret
  exact ⟨rfl, (Below.refl _ _).alloc (Nat.le_refl _) _⟩
set_option maxHeartbeats 1000000 in
set_option maxRecDepth 100000 in
theorem care_t106 (b : Nat) (loc : Int) (w : World) : Calls Try.prog 29 #[.agg #[.iface 106 (.pointer (some ⟨b, 0, none⟩)), .int .i32 loc]] w fun e w' => e = .returned (.bool false) ∧ Below w.heap.size w w' := by
  have f26 := ta26
  have f76 := ta76
  have f79 := ta79
  have f81 := ta81
  have f59 := ta59
  have f45 := ta45
  have f84 := ta84
  have f87 := ta87
  have f92 := ta92
  have f95 := ta95
  have f98 := ta98
  have f101 := ta101
  have f106 := ta106
  have f110 := ta110
  have f113 := ta113
  have f60 := ta60
  have f116 := ta116
  have f118 := ta118
  have f122 := ta122
  have f129 := ta129
  go_enter Try.func29, Try.ntmps29
  go_wp2
  go_ret
  exact ⟨rfl, (Below.refl _ _).alloc (Nat.le_refl _) _⟩
set_option maxHeartbeats 1000000 in
set_option maxRecDepth 100000 in
theorem care_t110 (b : Nat) (loc : Int) (w : World) : Calls Try.prog 29 #[.agg #[.iface 110 (.pointer (some ⟨b, 0, none⟩)), .int .i32 loc]] w fun e w' => e = .returned (.bool false) ∧ Below w.heap.size w w' := by
  have f26 := ta26
  have f76 := ta76
  have f79 := ta79
  have f81 := ta81
  have f59 := ta59
  have f45 := ta45
  have f84 := ta84
  have f87 := ta87
  have f92 := ta92
  have f95 := ta95
  have f98 := ta98
  have f101 := ta101
  have f106 := ta106
  have f110 := ta110
  have f113 := ta113
  have f60 := ta60
  have f116 := ta116
  have f118 := ta118
  have f122 := ta122
  have f129 := ta129
  go_enter Try.func29, Try.ntmps29
  go_wp2
  go_ret
  exact ⟨rfl, (Below.refl _ _).alloc (Nat.le_refl _) _⟩
set_option maxHeartbeats 1000000 in
set_option maxRecDepth 100000 in
theorem care_t113 (b : Nat) (loc : Int) (w : World) : Calls Try.prog 29 #[.agg #[.iface 113 (.pointer (some ⟨b, 0, none⟩)), .int .i32 loc]] w fun e w' => e = .returned (.bool false) ∧ Below w.heap.size w w' := by
  have f26 := ta26
  have f76 := ta76
  have f79 := ta79
  have f81 := ta81
  have f59 := ta59
  have f45 := ta45
  have f84 := ta84
  have f87 := ta87
  have f92 := ta92
  have f95 := ta95
  have f98 := ta98
  have f101 := ta101
  have f106 := ta106
  have f110 := ta110
  have f113 := ta113
  have f60 := ta60
  have f116 := ta116
  have f118 := ta118
  have f122 := ta122
  have f129 := ta129
  go_enter Try.func29, Try.ntmps29
  go_wp2
  go_ret
  exact ⟨rfl, (Below.refl _ _).alloc (Nat.le_refl _) _⟩
set_option maxHeartbeats 1000000 in
set_option maxRecDepth 100000 in
theorem care_t60 (b : Nat) (loc : Int) (w : World) : Calls Try.prog 29 #[.agg #[.iface 60 (.pointer (some ⟨b, 0, none⟩)), .int .i32 loc]] w fun e w' => e = .returned (.bool false) ∧ Below w.heap.size w w' := by
  have f26 := ta26
  have f76 := ta76
  have f79 := ta79
  have f81 := ta81
  have f59 := ta59
  have f45 := ta45
  have f84 := ta84
  have f87 := ta87
  have f92 := ta92
  have f95 := ta95
  have f98 := ta98
  have f101 := ta101
  have f106 := ta106
  have f110 := ta110
  have f113 := ta113
  have f60 := ta60
  have f116 := ta116
  have f118 := ta118
  have f122 := ta122
  have f129 := ta129
  go_enter Try.func29, Try.ntmps29
  go_wp2
  go_ret
  exact ⟨rfl, (Below.refl _ _).alloc (Nat.le_refl _) _⟩
set_option maxHeartbeats 1000000 in
set_option maxRecDepth 100000 in
theorem care_t116 (b : Nat) (loc : Int) (w : World) : Calls Try.prog 29 #[.agg #[.iface 116 (.pointer (some ⟨b, 0, none⟩)), .int .i32 loc]] w fun e w' => e = .returned (.bool false) ∧ Below w.heap.size w w' := by
  have f26 := ta26
  have f76 := ta76
  have f79 := ta79
  have f81 := ta81
  have f59 := ta59
  have f45 := ta45
  have f84 := ta84
  have f87 := ta87
  have f92 := ta92
  have f95 := ta95
  have f98 := ta98
  have f101 := ta101
  have f106 := ta106
  have f110 := ta110
  have f113 := ta113
  have f60 := ta60
  have f116 := ta116
  have f118 := ta118
  have f122 := ta122
  have f129 := ta129
  go_enter Try.func29, Try.ntmps29
  go_wp2
  go_ret
  exact ⟨rfl, (Below.refl _ _).alloc (Nat.le_refl _) _⟩
set_option maxHeartbeats 1000000 in
set_option maxRecDepth 100000 in
theorem care_t118 (b : Nat) (loc : Int) (w : World) : Calls Try.prog 29 #[.agg #[.iface 118 (.pointer (some ⟨b, 0, none⟩)), .int .i32 loc]] w fun e w' => e = .returned (.bool false) ∧ Below w.heap.size w w' := by
  have f26 := ta26
  have f76 := ta76
  have f79 := ta79
  have f81 := ta81
  have f59 := ta59
  have f45 := ta45
  have f84 := ta84
  have f87 := ta87
  have f92 := ta92
  have f95 := ta95
  have f98 := ta98
  have f101 := ta101
  have f106 := ta106
  have f110 := ta110
  have f113 := ta113
  have f60 := ta60
  have f116 := ta116
  have f118 := ta118
  have f122 := ta122
  have f129 := ta129
  go_enter Try.func29, Try.ntmps29
  go_wp2
  go_ret
  exact ⟨rfl, (Below.refl _ _).alloc (Nat.le_refl _) _⟩
set_option maxHeartbeats 1000000 in
set_option maxRecDepth 100000 in
theorem care_t122 (b : Nat) (loc : Int) (w : World) : Calls Try.prog 29 #[.agg #[.iface 122 (.pointer (some ⟨b, 0, none⟩)), .int .i32 loc]] w fun e w' => e = .returned (.bool false) ∧ Below w.heap.size w w' := by
  have f26 := ta26
  have f76 := ta76
  have f79 := ta79
  have f81 := ta81
  have f59 := ta59
  have f45 := ta45
  have f84 := ta84
  have f87 := ta87
  have f92 := ta92
  have f95 := ta95
  have f98 := ta98
  have f101 := ta101
  have f106 := ta106
  have f110 := ta110
  have f113 := ta113
  have f60 := ta60
  have f116 := ta116
  have f118 := ta118
  have f122 := ta122
  have f129 := ta129
  go_enter Try.func29, Try.ntmps29
  go_wp2
  go_ret
  exact ⟨rfl, (Below.refl _ _).alloc (Nat.le_refl _) _⟩
set_option maxHeartbeats 1000000 in
set_option maxRecDepth 100000 in
theorem care_t129 (b : Nat) (loc n : Int) (w : World) (hb : b < w.heap.size) (hc : w.cell? ⟨b, 1, none⟩ = some (.int .u8 n)) : Calls Try.prog 29 #[.agg #[.iface 129 (.pointer (some ⟨b, 0, none⟩)), .int .i32 loc]] w fun e w' => e = .returned (.bool (n != 0)) ∧ Below w.heap.size w w' := by
  have f26 := ta26
  have f76 := ta76
  have f79 := ta79
  have f81 := ta81
  have f59 := ta59
  have f45 := ta45
  have f84 := ta84
  have f87 := ta87
  have f92 := ta92
  have f95 := ta95
  have f98 := ta98
  have f101 := ta101
  have f106 := ta106
  have f110 := ta110
  have f113 := ta113
  have f60 := ta60
  have f116 := ta116
  have f118 := ta118
  have f122 := ta122
  have f129 := ta129
  go_enter Try.func29, Try.ntmps29
  go_wp2
  go_ret
  exact ⟨rfl, (Below.refl _ _).alloc (Nat.le_refl _) _⟩
set_option maxHeartbeats 1000000 in
set_option maxRecDepth 100000 in
theorem care_t134 (b : Nat) (loc : Int) (w : World) : Calls Try.prog 29 #[.agg #[.iface 134 (.pointer (some ⟨b, 0, none⟩)), .int .i32 loc]] w fun e w' => e = .returned (.bool true) ∧ Below w.heap.size w w' := by
  have f26 := ta26
  have f76 := ta76
  have f79 := ta79
  have f81 := ta81
  have f59 := ta59
  have f45 := ta45
  have f84 := ta84
  have f87 := ta87
  have f92 := ta92
  have f95 := ta95
  have f98 := ta98
  have f101 := ta101
  have f106 := ta106
  have f110 := ta110
  have f113 := ta113
  have f60 := ta60
  have f116 := ta116
  have f118 := ta118
  have f122 := ta122
  have f129 := ta129
  go_enter Try.func29, Try.ntmps29
  go_wp2
  go_ret
  exact ⟨rfl, (Below.refl _ _).alloc (Nat.le_refl _) _⟩
set_option maxHeartbeats 1000000 in
set_option maxRecDepth 100000 in
theorem care_t142 (b : Nat) (loc : Int) (w : World) : Calls Try.prog 29 #[.agg #[.iface 142 (.pointer (some ⟨b, 0, none⟩)), .int .i32 loc]] w fun e w' => e = .returned (.bool true) ∧ Below w.heap.size w w' := by
  have f26 := ta26
  have f76 := ta76
  have f79 := ta79
  have f81 := ta81
  have f59 := ta59
  have f45 := ta45
  have f84 := ta84
  have f87 := ta87
  have f92 := ta92
  have f95 := ta95
  have f98 := ta98
  have f101 := ta101
  have f106 := ta106
  have f110 := ta110
  have f113 := ta113
  have f60 := ta60
  have f116 := ta116
  have f118 := ta118
  have f122 := ta122
  have f129 := ta129
  go_enter Try.func29, Try.ntmps29
  go_wp2
  go_ret
  exact ⟨rfl, (Below.refl _ _).alloc (Nat.le_refl _) _⟩
set_option maxHeartbeats 1000000 in
set_option maxRecDepth 100000 in
theorem care_t146 (b : Nat) (loc : Int) (w : World) : Calls Try.prog 29 #[.agg #[.iface 146 (.pointer (some ⟨b, 0, none⟩)), .int .i32 loc]] w fun e w' => e = .returned (.bool true) ∧ Below w.heap.size w w' := by
  have f26 := ta26
  have f76 := ta76
  have f79 := ta79
  have f81 := ta81
  have f59 := ta59
  have f45 := ta45
  have f84 := ta84
  have f87 := ta87
  have f92 := ta92
  have f95 := ta95
  have f98 := ta98
  have f101 := ta101
  have f106 := ta106
  have f110 := ta110
  have f113 := ta113
  have f60 := ta60
  have f116 := ta116
  have f118 := ta118
  have f122 := ta122
  have f129 := ta129
  go_enter Try.func29, Try.ntmps29
  go_wp2
  go_ret
  exact ⟨rfl, (Below.refl _ _).alloc (Nat.le_refl _) _⟩
set_option maxHeartbeats 1000000 in
set_option maxRecDepth 100000 in
theorem care_nil (loc : Int) (w : World) : Calls Try.prog 29 #[.agg #[.nilIface, .int .i32 loc]] w fun e w' => e = .returned (.bool true) ∧ Below w.heap.size w w' := by
  have f26 := tn26
  have f76 := tn76
  have f79 := tn79
  have f81 := tn81
  have f59 := tn59
  have f45 := tn45
  have f84 := tn84
  have f87 := tn87
  have f92 := tn92
  have f95 := tn95
  have f98 := tn98
  have f101 := tn101
  have f106 := tn106
  have f110 := tn110
  have f113 := tn113
  have f60 := tn60
  have f116 := tn116
  have f118 := tn118
  have f122 := tn122
  have f129 := tn129
  go_enter Try.func29, Try.ntmps29
  go_wp2
  go_ret
  exact ⟨rfl, (Below.refl _ _).alloc (Nat.le_refl _) _⟩

theorem care_any (k : Nat) (v : Value) (B : Nat) (loc : Int) (w : World) (h : IsKind w B k v) : Calls Try.prog 29 #[.agg #[v, .int .i32 loc]] w fun e w' => e = .returned (.bool (decide (20 ≤ k))) ∧ Below w.heap.size w w' := by
  rcases h with ⟨rfl, rfl⟩ | ⟨hk, b, rfl, _, hl, hc⟩
  · exact care_nil loc w
  · match k, hk, hc with
    | 0, _, _ => exact care_t26 b loc w
    | 1, _, _ => exact care_t76 b loc w
    | 2, _, _ => exact care_t79 b loc w
    | 3, _, _ => exact care_t81 b loc w
    | 4, _, _ => exact care_t59 b loc w
    | 5, _, _ => exact care_t45 b loc w
    | 6, _, _ => exact care_t84 b loc w
    | 7, _, _ => exact care_t87 b loc w
    | 8, _, _ => exact care_t92 b loc w
    | 9, _, _ => exact care_t95 b loc w
    | 10, _, _ => exact care_t98 b loc w
    | 11, _, _ => exact care_t101 b loc w
    | 12, _, _ => exact care_t106 b loc w
    | 13, _, _ => exact care_t110 b loc w
    | 14, _, _ => exact care_t113 b loc w
    | 15, _, _ => exact care_t60 b loc w
    | 16, _, _ => exact care_t116 b loc w
    | 17, _, _ => exact care_t118 b loc w
    | 18, _, _ => exact care_t122 b loc w
    | 19, _, hc => exact care_t129 b loc 0 w hl (hc (by omega) (by omega))
    | 20, _, hc => exact care_t129 b loc 1 w hl (hc (by omega) (by omega))
    | 21, _, hc => exact care_t129 b loc 2 w hl (hc (by omega) (by omega))
    | 22, _, _ => exact care_t134 b loc w
    | 23, _, _ => exact care_t142 b loc w
    | 24, _, _ => exact care_t146 b loc w
    | (n + 25), h, _ => omega

end Go.Proofs.Ytolpgogmbebmcaa
