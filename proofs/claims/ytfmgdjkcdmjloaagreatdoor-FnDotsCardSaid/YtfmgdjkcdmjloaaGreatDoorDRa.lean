/- FnDots at texts of 0 groups. -/
import Derived.Test.YtfmgdjkcdmjloaaGreatDoorDGo
set_option linter.unusedVariables false
set_option linter.unusedSimpArgs false
namespace Go.Proofs.YtfmgdjkcdmjloaaGreatDoor
open Go.AM
theorem h0_0 : rH 0 0 = true := by kernel_rfl
theorem f0_0 : rF 0 0 = true := by kernel_rfl
theorem h0_1 : rH 0 1 = true := by kernel_rfl
theorem f0_1 : rF 0 1 = true := by kernel_rfl
theorem h0_2 : rH 0 2 = true := by kernel_rfl
theorem f0_2 : rF 0 2 = true := by kernel_rfl
end Go.Proofs.YtfmgdjkcdmjloaaGreatDoor
/- FnDots at texts of 1 groups. -/
namespace Go.Proofs.YtfmgdjkcdmjloaaGreatDoor
open Go.AM
theorem h1_0 : rH 1 0 = true := by kernel_rfl
theorem f1_0 : rF 1 0 = true := by kernel_rfl
theorem h1_1 : rH 1 1 = true := by kernel_rfl
theorem f1_1 : rF 1 1 = true := by kernel_rfl
theorem h1_2 : rH 1 2 = true := by kernel_rfl
theorem f1_2 : rF 1 2 = true := by kernel_rfl
end Go.Proofs.YtfmgdjkcdmjloaaGreatDoor
/- FnDots at texts of 2 groups. -/
namespace Go.Proofs.YtfmgdjkcdmjloaaGreatDoor
open Go.AM
theorem h2_0 : rH 2 0 = true := by kernel_rfl
theorem f2_0 : rF 2 0 = true := by kernel_rfl
theorem h2_1 : rH 2 1 = true := by kernel_rfl
theorem f2_1 : rF 2 1 = true := by kernel_rfl
theorem h2_2 : rH 2 2 = true := by kernel_rfl
theorem f2_2 : rF 2 2 = true := by kernel_rfl
end Go.Proofs.YtfmgdjkcdmjloaaGreatDoor
/- FnDots at texts of 3 groups. -/
namespace Go.Proofs.YtfmgdjkcdmjloaaGreatDoor
open Go.AM
theorem h3_0 : rH 3 0 = true := by kernel_rfl
theorem f3_0 : rF 3 0 = true := by kernel_rfl
theorem h3_1 : rH 3 1 = true := by kernel_rfl
theorem f3_1 : rF 3 1 = true := by kernel_rfl
theorem h3_2 : rH 3 2 = true := by kernel_rfl
theorem f3_2 : rF 3 2 = true := by kernel_rfl
end Go.Proofs.YtfmgdjkcdmjloaaGreatDoor
/- FnDots at texts of 4 groups. -/
namespace Go.Proofs.YtfmgdjkcdmjloaaGreatDoor
open Go.AM
theorem h4_0 : rH 4 0 = true := by kernel_rfl
theorem f4_0 : rF 4 0 = true := by kernel_rfl
theorem h4_1 : rH 4 1 = true := by kernel_rfl
theorem f4_1 : rF 4 1 = true := by kernel_rfl
theorem h4_2 : rH 4 2 = true := by kernel_rfl
theorem f4_2 : rF 4 2 = true := by kernel_rfl
end Go.Proofs.YtfmgdjkcdmjloaaGreatDoor
/- FnDots at texts of 5 groups. -/
namespace Go.Proofs.YtfmgdjkcdmjloaaGreatDoor
open Go.AM
theorem h5_0 : rH 5 0 = true := by kernel_rfl
theorem f5_0 : rF 5 0 = true := by kernel_rfl
theorem h5_1 : rH 5 1 = true := by kernel_rfl
theorem f5_1 : rF 5 1 = true := by kernel_rfl
theorem h5_2 : rH 5 2 = true := by kernel_rfl
theorem f5_2 : rF 5 2 = true := by kernel_rfl
end Go.Proofs.YtfmgdjkcdmjloaaGreatDoor
/- FnDots at texts of 6 groups. -/
namespace Go.Proofs.YtfmgdjkcdmjloaaGreatDoor
open Go.AM
theorem h6_0 : rH 6 0 = true := by kernel_rfl
theorem f6_0 : rF 6 0 = true := by kernel_rfl
theorem h6_1 : rH 6 1 = true := by kernel_rfl
theorem f6_1 : rF 6 1 = true := by kernel_rfl
theorem h6_2 : rH 6 2 = true := by kernel_rfl
theorem f6_2 : rF 6 2 = true := by kernel_rfl
end Go.Proofs.YtfmgdjkcdmjloaaGreatDoor
/- FnDots at texts of 7 groups. -/
namespace Go.Proofs.YtfmgdjkcdmjloaaGreatDoor
open Go.AM
theorem h7_0 : rH 7 0 = true := by kernel_rfl
theorem f7_0 : rF 7 0 = true := by kernel_rfl
theorem h7_1 : rH 7 1 = true := by kernel_rfl
theorem f7_1 : rF 7 1 = true := by kernel_rfl
theorem h7_2 : rH 7 2 = true := by kernel_rfl
theorem f7_2 : rF 7 2 = true := by kernel_rfl
end Go.Proofs.YtfmgdjkcdmjloaaGreatDoor
/- FnDots at texts of 8 groups. -/
namespace Go.Proofs.YtfmgdjkcdmjloaaGreatDoor
open Go.AM
theorem h8_0 : rH 8 0 = true := by kernel_rfl
theorem f8_0 : rF 8 0 = true := by kernel_rfl
theorem h8_1 : rH 8 1 = true := by kernel_rfl
theorem f8_1 : rF 8 1 = true := by kernel_rfl
theorem h8_2 : rH 8 2 = true := by kernel_rfl
theorem f8_2 : rF 8 2 = true := by kernel_rfl
end Go.Proofs.YtfmgdjkcdmjloaaGreatDoor
/- FnDots at texts of 9 groups. -/
namespace Go.Proofs.YtfmgdjkcdmjloaaGreatDoor
open Go.AM
theorem h9_0 : rH 9 0 = true := by kernel_rfl
theorem f9_0 : rF 9 0 = true := by kernel_rfl
theorem h9_1 : rH 9 1 = true := by kernel_rfl
theorem f9_1 : rF 9 1 = true := by kernel_rfl
theorem h9_2 : rH 9 2 = true := by kernel_rfl
theorem f9_2 : rF 9 2 = true := by kernel_rfl
end Go.Proofs.YtfmgdjkcdmjloaaGreatDoor
