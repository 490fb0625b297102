/-
  countSQL, eachRelationSQL, eachCountSQL, ZZeachCountSQL: the walks. The text is P1, the prefix, P2, the relations, P3.
-/
import Derived.Test.Qxb6616826aProg
import Derived.WalkKit
import Derived.WalkLawsBesides
import Derived.WalkSpells
namespace Go.Proofs.Qxb6616826a
open Go.RowKit

def P1 : List UInt8 := [65, 82, 82, 65, 89, 40, 83, 69, 76, 69, 67, 84, 32] ++ [99, 111, 97, 108, 101, 115, 99, 101, 40, 110, 117, 108, 108, 105, 102, 40, 99, 117, 114, 114, 101, 110, 116, 95, 115, 101, 116, 116, 105, 110, 103, 40] ++ [39]
def P2 : List UInt8 := [39, 32, 124, 124, 32, 116, 46, 111, 105, 100] ++ [44, 32, 116, 114, 117, 101, 41, 44, 32, 39, 39, 41, 44, 32, 39, 48, 39, 41, 58, 58, 105, 110, 116, 56] ++ [32, 70, 82, 79, 77, 32, 117, 110, 110, 101, 115, 116, 40]
def P3 : List UInt8 := [58, 58, 111, 105, 100, 91, 93, 41, 32, 87, 73, 84, 72, 32, 79, 82, 68, 73, 78, 65, 76, 73, 84, 89, 32, 65, 83, 32, 116, 32, 40, 111, 105, 100, 44, 32, 105, 41, 32, 79, 82, 68, 69, 82, 32, 66, 89, 32, 116, 46, 105, 41]

/-- the text as bytes -/
def sqlL (r p : List UInt8) : List UInt8 := P1 ++ p ++ P2 ++ r ++ P3
def sql (r p : ByteArray) : ByteArray := ⟨(sqlL r.data.toList p.data.toList).toArray⟩

theorem txt (r p : ByteArray) : ((⟨#[65, 82, 82, 65, 89, 40, 83, 69, 76, 69, 67, 84, 32]⟩ : ByteArray) ++ ((⟨#[99, 111, 97, 108, 101, 115, 99, 101, 40, 110, 117, 108, 108, 105, 102, 40, 99, 117, 114, 114, 101, 110, 116, 95, 115, 101, 116, 116, 105, 110, 103, 40]⟩ : ByteArray) ++ ((⟨#[39]⟩ : ByteArray) ++ p ++ (⟨#[39, 32, 124, 124, 32, 116, 46, 111, 105, 100]⟩ : ByteArray)) ++ (⟨#[44, 32, 116, 114, 117, 101, 41, 44, 32, 39, 39, 41, 44, 32, 39, 48, 39, 41, 58, 58, 105, 110, 116, 56]⟩ : ByteArray)) ++ (⟨#[32, 70, 82, 79, 77, 32, 117, 110, 110, 101, 115, 116, 40]⟩ : ByteArray) ++ r ++ (⟨#[58, 58, 111, 105, 100, 91, 93, 41, 32, 87, 73, 84, 72, 32, 79, 82, 68, 73, 78, 65, 76, 73, 84, 89, 32, 65, 83, 32, 116, 32, 40, 111, 105, 100, 44, 32, 105, 41, 32, 79, 82, 68, 69, 82, 32, 66, 89, 32, 116, 46, 105, 41]⟩ : ByteArray)) = sql r p := by
  apply ByteArray.ext
  apply Array.toList_inj.1
  simp only [sql, sqlL, P1, P2, P3, ByteArray.data_append, Array.toList_append, List.append_assoc]

theorem ret_string {a b : ByteArray} (h : a = b) : Ending.returned (.string a) = .returned (.string b) := by rw [h]

set_option maxHeartbeats 400000 in
set_option maxRecDepth 100000 in
theorem sql_any (r p : ByteArray) (hr : r.size ≤ 65536) (hp : p.size ≤ 65536) (w : World) :
    Calls Try.prog 7 #[.string r, .string p] w fun e w' => e = .returned (.string (sql r p)) ∧ w = w' := by
  go_enter Try.func7, Try.ntmps7
  go_wp2
  go_ret
  exact ⟨ret_string (txt r p), rfl⟩
end Go.Proofs.Qxb6616826a
