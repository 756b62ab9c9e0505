/-
  THE LAW's LAST PART: the members of the committee against those that came in.
-/
import Derived.Test.YbulkezlcShort
namespace Go.Proofs.Ybulkezlc
open Go.RowKit

def headNo : Code → Option Nat
  | .region k _ _ => some k
  | .seq a _ => headNo a
  | _ => none
/-- What is left of a body from region k on. -/
def tailAt (k : Nat) : Code → Option Code
  | .seq a b => if headNo a = some k then some (.seq a b) else match tailAt k a with
    | some c => some c
    | none => tailAt k b
  | .block _ c => tailAt k c
  | .scope c => tailAt k c
  | .region j ops d => if j = k then some (.region j ops d) else none
  | _ => none

/-- What the last part reads: the members' row, the committee's first cell. -/
structure Fin (n : Nat) (w : World) (S : Nat → ByteArray) (T : Nat → Int) (wr : World) : Prop where
  below : Below w.heap.size w wr
  ms : wr.rowIs w.heap.size 43 (n * 2) (memCell S T)
  com : wr.cell? ⟨w.heap.size + 2, 0, none⟩ = some (.slice (some ⟨w.heap.size, 0, none⟩) n n)
theorem Fin.drewN {n m : Nat} {w wr : World} {S : Nat → ByteArray} {T : Nat → Int} (h : Fin n w S T wr) : Fin n w S T (wr.drewN m) :=
  ⟨⟨h.below.os, h.below.tape, h.below.output, h.below.size, h.below.block⟩, h.ms, h.com⟩

set_option maxHeartbeats 800000 in
set_option maxRecDepth 100000 in
theorem part_two (u0 u1 u2 u4 u5 u6 u7 u8 u10 u11 u12 u13 u14 u15 u16 u17 u18 u19 u20 u21 u22 u23 u24 u25 u26 u27 u28 u29 u30 u31 u32 u33 u34 u35 u36 u37 u38 u39 u40 u41 u42 u43 u44 u45 u46 u47 u48 u49 u50 u51 u52 u53 u54 u55 u56 u57 u58 u59 u60 u61 u62 u63 u64 u65 u66 u67 u68 u69 u70 u71 u72 u73 u74 u75 u76 u77 u78 u79 u80 u81 u82 u83 u84 u85 u86 u87 u88 u89 u90 u91 u92 u93 u94 u95 u96 u97 u98 u99 u100 u101 u102 u103 u104 u105 u106 u107 u108 u109 u110 u111 u112 u113 u114 u115 u116 u117 u118 u119 u120 : Value) (a : Option Addr) (n c : Nat) (S : Nat → ByteArray) (T : Nat → Int) (w wr : World) (hn : n ≤ 1048576) (hm : Rm w a n S T) (hfin : Fin n w S T wr) :
    Code.wp Yba.prog ((Yba.f5.body.bind (tailAt 27)).getD .skip) (bodyPost Yba.prog Yba.f5 fun e w' => e = .returned (.bool true) ∧ Below w.heap.size w w')
      ⟨#[u0, u1, u2, .slice a n c, u4, u5, u6, u7, u8, .pointer (some ⟨w.heap.size + 2, 0, none⟩), u10, u11, u12, u13, u14, u15, u16, u17, u18, u19, u20, u21, u22, u23, u24, u25, u26, u27, u28, u29, u30, u31, u32, u33, u34, u35, u36, u37, u38, u39, u40, u41, u42, u43, u44, u45, u46, u47, u48, u49, u50, u51, u52, u53, u54, u55, u56, u57, u58, u59, u60, u61, u62, u63, u64, u65, u66, u67, u68, u69, u70, u71, u72, u73, u74, u75, u76, u77, u78, u79, u80, u81, u82, u83, u84, u85, u86, u87, u88, u89, u90, u91, u92, u93, u94, u95, u96, u97, u98, u99, u100, u101, u102, u103, u104, u105, u106, u107, u108, u109, u110, u111, u112, u113, u114, u115, u116, u117, u118, u119, u120], []⟩ wr := by
  have HM := hide hm
  clear hm
  have hc0 := hfin.com
  conv => arg 2; whnf
  go_wp2
  go_loopg [18] n (fun g i w2 => ∃ k : Nat, k + g = n ∧ i = .int .i64 k ∧ Fin n w S T w2)
  case atStart => exact ⟨0, by omega, rfl, hfin⟩
  case round =>
    clear hfin hc0
    obtain ⟨k, hk, rfl, hfin⟩ := hrel
    by_cases hlt : k < n
    · obtain ⟨b, off, rfl, hc⟩ := HM.out.resolve_left (by omega)
      have hk1 := hc k hlt
      have hv0 : wr.cell? ⟨b, off + k * 2, none⟩ = some (.string (S k)) := (hfin.below.cell (block_lt_of_cell hk1.1)).trans hk1.1
      have hv1 : wr.cell? ⟨b, off + k * 2 + 1, none⟩ = some (.int .u64 (T k)) := (hfin.below.cell (block_lt_of_cell hk1.2.1)).trans hk1.2.1
      clear hc hk1
      have hc0 := hfin.com
      have hm0 := mem_addr hfin.ms hlt
      have hm1 := mem_stake hfin.ms hlt
      go_wp2
      go_quiet (fail)
      go_wp2
      go_roundg (gk - 1)
      case measure => omega
      case rel => exact ⟨k + 1, by omega, by go_num, hfin.drewN⟩
    · go_wp2
      go_ret
      exact ⟨rfl, hfin.below⟩
end Go.Proofs.Ybulkezlc
