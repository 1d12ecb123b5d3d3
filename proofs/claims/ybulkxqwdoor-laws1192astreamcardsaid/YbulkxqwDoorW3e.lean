/-
  The reader, all told.
-/
import Derived.Test.YbulkxqwDoorW3c
import Derived.Test.YbulkxqwDoorW3d
namespace Go.Proofs.YbulkxqwDoor
open Go.RowKit

theorem read_some (F : Fx) (w : World) (x : Sd) (A : At F w x) (hr : x.rp < F.L.length) (hl : F.L.length ≤ 1024) (hcl : F.Ch.length ≤ 1024) (hbs : 1 ≤ F.bs) (hbs2 : F.bs ≤ 16) (hk : x.kk ≤ 100000) :
    Calls Ybad.prog 22 #[.pointer (some ⟨F.s, 0, none⟩), .slice (some ⟨F.s + 2, 0, none⟩) F.bs F.bs] w (Rd F x w) := by
  by_cases hch : F.Ch = []
  · exact read_plain F w x A hr hl hcl hbs hbs2 hk hch
  · have hp : 0 < F.Ch.length := List.length_pos_iff.2 hch
    by_cases hb : 1 + (F.Ch[x.kk % F.Ch.length]'(Nat.mod_lt _ hp)).toNat % 7 < F.bs
    · exact read_lt F w x A hr hl hcl hbs hbs2 hk hch (fun J hJ hJl => by subst hJ; exact hb)
    · exact read_ge F w x A hr hl hcl hbs hbs2 hk hch (fun J hJ hJl => by subst hJ; exact hb)
end Go.Proofs.YbulkxqwDoor
