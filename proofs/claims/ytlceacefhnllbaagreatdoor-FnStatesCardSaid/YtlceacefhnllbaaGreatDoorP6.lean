/- A part of the proof of the statement on the law FnStates, which the last text proves: part P6. -/
import Derived.Test.YtlceacefhnllbaaGreatDoorP5
set_option linter.all false
section
namespace Pl
theorem chk2_0 : chk2 ((codes.drop (13 * 0)).take 13) codes = true := by decide +kernel
end Pl
end
section
namespace Pl
theorem chk2_1 : chk2 ((codes.drop (13 * 1)).take 13) codes = true := by decide +kernel
end Pl
end
